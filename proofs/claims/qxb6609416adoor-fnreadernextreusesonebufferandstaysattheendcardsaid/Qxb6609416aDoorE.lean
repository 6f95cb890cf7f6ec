import Derived.Test.Qxb6609416aDoorC
namespace Go.Proofs.Qxb6609416aDoor
open Go.RowKit

set_option maxHeartbeats 2000000 in
set_option maxRecDepth 100000 in
/-- 'Read', the buffer not empty: out of the buffer. -/
theorem read_buffered (bR bB bY g off : Nat) (r wr n m k : Nat) (cur row : List Value) (tg : TypeId) (lb lrs : Int) (w : World)
    (hR : Blk w bR 49 (rdC bB bY r wr .nilIface lb lrs)) (hB : Blk w bB 5 cur) (hcl : cur.length = 4096) (hc1 : ∀ v ∈ cur, ∃ z : Nat, z ≤ 255 ∧ v = .int .u8 z) (hr : r < wr) (hw : wr ≤ 4096)
    (hg : Blk w g tg row) (hfit : off + n ≤ row.length) (hn0 : 0 < n) (hn2 : n ≤ 65536) (hk : k = min n (wr - r)) (hRB : bR ≠ bB) (hRg : bR ≠ g) (hgB : g ≠ bB) :
    Calls Tryd.prog 32 #[.pointer (some ⟨bR, 0, none⟩), .slice (some ⟨g, off, none⟩) n m] w fun e w' => e = .returned (.tuple #[.int .i64 k, .nilIface]) ∧ Only (fun k => k = bR ∨ k = g) w w' ∧
      (∃ lb lrs, Blk w' bR 49 (rdC bB bY (r + k) wr .nilIface lb lrs)) ∧ Blk w' g tg (splice row off ((cur.drop r).take k)) := by
  have hkn : k ≤ n := by omega
  have hk0 : 0 < k := by omega
  have hkw : r + k ≤ wr := by omega
  have Hlen : Hid (((cur.drop r).take k).length = k) := by show _ = _; rw [List.length_take, List.length_drop, hcl]; omega
  have HkM : Hid (((cur.drop r).take k).length = Nat.min (wr - r) n) := by show _ = _; rw [Hlen.out]; show _ = min _ _; omega
  clear hk
  have hne : ((r : Int) == (wr : Int)) = false := by simp; omega
  have h2 := hR.cell (i := 2) (by rfl)
  have h3 := hR.cell (i := 3) (by rfl)
  go_enter Tryd.func32, Tryd.ntmps32
  go_wp2_with fail
  go_quiet (fail)
  go_wp2_with fail
  have a0 : Blk (w.drewN nq) bR 49 (rdC bB bY r wr .nilIface lb lrs) := hR
  have a1 : Blk (w.drewN nq) bB 5 cur := hB
  have a2 : Blk (w.drewN nq) g tg row := hg
  have a3 : Only (fun k => k = bR ∨ k = g) w (w.drewN nq) := Only.drewN _ _ _
  generalize w.drewN nq = W1 at *
  clear h2 h3
  have HS : Hid (∀ w', Only (fun k => k = g) W1.drew w' → w'.cell? ⟨bR, 0, none⟩ = some (.slice (some ⟨bB, 0, none⟩) 4096 4096) ∧ w'.cell? ⟨bR, 2, none⟩ = some (.int .i64 r) ∧ w'.cell? ⟨bR, 3, none⟩ = some (.int .i64 wr)) := fun w' ho =>
    ⟨(ho.blk a0.drew hRg).cell (i := 0) rfl, (ho.blk a0.drew hRg).cell (i := 2) rfl, (ho.blk a0.drew hRg).cell (i := 3) rfl⟩
  have i0 : (0 : Int) ≤ (r : Int) := by omega
  have i1 : (r : Int) ≤ (wr : Int) := by omega
  have i2 : (wr : Int) ≤ (4096 : Int) := by omega
  have i3 : ¬ 4096 = r := by omega
  have hcs : ∀ v ∈ (cur.drop r).take k, v.oneCell' = true := fun v hv => by obtain ⟨z, _, rfl⟩ := hc1 v (List.mem_of_mem_drop (List.mem_of_mem_take hv)); rfl
  have hfit' : off + ((cur.drop r).take k).length ≤ row.length := by rw [Hlen.out]; omega
  have hpos : 0 < ((cur.drop r).take k).length → (some ⟨g, off, none⟩ : Option Addr) = some ⟨g, off, none⟩ ∧ ∃ ad, (some ⟨bB, r, none⟩ : Option Addr) = some ad ∧ ∀ j v, ((cur.drop r).take k)[j]? = some v → W1.drew.cell? (ad.add j) = some v := by
    intro _
    refine ⟨rfl, _, rfl, fun j v hv => ?_⟩
    rw [Addr.add_lit]
    refine a1.drew.cell ?_
    rw [List.getElem?_take] at hv
    split at hv
    · rw [List.getElem?_drop] at hv; exact hv
    · cases hv
  obtain ⟨cs, HC⟩ : ∃ cs, Hid (cs = (cur.drop r).take k) := ⟨_, rfl⟩
  rw [← HC.out] at Hlen HkM hcs hfit' hpos
  go_region_held3 (fun w' => w'.cell? ⟨bR, 0, none⟩ = some (.slice (some ⟨bB, 0, none⟩) 4096 4096) ∧ w'.cell? ⟨bR, 2, none⟩ = some (.int .i64 r) ∧ w'.cell? ⟨bR, 3, none⟩ = some (.int .i64 wr)) (first | exact HS.out _ (Only.refl _ _) | exact HS.out _ ‹_›)
    ((refine step_copy_blk rfl (.tmp 109) (.tmp 122) 22 22 rfl 5 Tryd.underlying22 (by kernel_rfl) (some ⟨g, off, none⟩) (some ⟨bB, r, none⟩) n m (wr - r) (4096 - r) rfl rfl g off row tg a2.drew cs HkM.out hpos hfit' hcs ?_; intro w2 hB2 hO2))
  rw [Hlen.out]
  have b0 : Blk w2 bR 49 (rdC bB bY r wr .nilIface lb lrs) := hO2.blk a0.drew hRg
  have b1 : Blk w2 bB 5 cur := hO2.blk a1.drew hgB.symm
  have b3 : Only (fun k => k = bR ∨ k = g) w w2 := a3.trans ((Only.drew _ _).trans (hO2.mono fun _ h => .inr h))
  have g2 := b0.cell (i := 2) (by rfl)
  have e2 := b0.frozen 2
  clear HS hpos hcs hfit' a0 a1 a2 a3
  go_wp2_with fail
  have c0 : Blk (w2.setCell ⟨bR, 2, none⟩ (.int .i64 ((r : Int) + (k : Int)))) bR 49 (rdC bB bY (r + k) wr .nilIface lb lrs) := by
    have e := b0.set 2 (.int .i64 ((r + k : Nat) : Int))
    simpa [rdC] using e
  have c1 : Blk (w2.setCell ⟨bR, 2, none⟩ (.int .i64 ((r : Int) + (k : Int)))) bB 5 cur := b1.other hRB.symm _
  have c2 : Blk (w2.setCell ⟨bR, 2, none⟩ (.int .i64 ((r : Int) + (k : Int)))) g tg (splice row off cs) := hB2.out.other hRg.symm _
  have c3 : Only (fun k => k = bR ∨ k = g) w (w2.setCell ⟨bR, 2, none⟩ (.int .i64 ((r : Int) + (k : Int)))) := b3.set (p := ⟨bR, 2, none⟩) (.inl rfl) _
  generalize (w2.setCell ⟨bR, 2, none⟩ (.int .i64 ((r : Int) + (k : Int)))) = W3 at *
  obtain ⟨q, hq⟩ : ∃ q, q = r + k := ⟨_, rfl⟩
  rw [← hq] at c0
  obtain ⟨z, hz255, hz⟩ : ∃ z : Nat, z ≤ 255 ∧ cur[q - 1]? = some (.int .u8 z) := by
    have hm : cur[q - 1]? = some (cur[q - 1]'(by omega)) := List.getElem?_eq_getElem _
    obtain ⟨z, hz255, hz⟩ := hc1 _ (List.mem_of_getElem? hm)
    exact ⟨z, hz255, by rw [hm, hz]⟩
  clear g2 e2 b0 b1 b3
  have d0 := c0.cell (i := 0) (by rfl)
  have d2 := c0.cell (i := 2) (by rfl)
  have d5 := c0.cell (i := 5) (by rfl)
  have d6 := c0.cell (i := 6) (by rfl)
  have p5 := c0.frozen 5
  have p6 := c0.frozen 6
  have dz := c1.cell hz
  have q0 : 0 < q := by omega
  have q1 : q ≤ 4096 := by omega
  have Hq := (show Hid (q = r + k) from hq)
  have eq1 : ((q : Int) - 1).toNat = q - 1 := by omega
  have j0 : (0 : Int) ≤ (q : Int) - 1 := by omega
  have j1 : (1 : Int) ≤ (q : Int) := by omega
  have j2 : (q : Int) - 1 < 4096 := by omega
  have j3 : (q : Int) - 1 < ((4096 : Nat) : Int) := by omega
  have wq : IntKind.i64.wrap ((q : Int) - 1) = (q : Int) - 1 := by rw [IntKind.wrap_i64]; omega
  have wz : IntKind.i64.wrap (z : Int) = (z : Int) := by rw [IntKind.wrap_i64]; omega
  clear hq hz
  go_region_held3 (fun w' => w'.cell? ⟨bR, 0, none⟩ = some (.slice (some ⟨bB, 0, none⟩) 4096 4096) ∧ w'.cell? ⟨bR, 2, none⟩ = some (.int .i64 q) ∧ w'.cell? ⟨bB, q - 1, none⟩ = some (.int .u8 z))
    (first | exact ⟨d0, d2, dz⟩ | (refine ⟨?_, ?_, ?_⟩ <;> (try rw [World.cell?_drew]) <;> rw [World.cell?_setCell_other _ _ _ _ (by first | (simp; done) | simp [hRB])] <;> first | exact d0 | exact d2 | exact dz)) (fail)
  go_wp2_with fail
  go_ret2
  refine ⟨rfl, ?_, ?_, ?_⟩
  · exact ((c3.set (p := ⟨bR, 5, none⟩) (.inl rfl) _).set (p := ⟨bR, 6, none⟩) (.inl rfl) _).trans (Only.drew _ _)
  · rw [← Hq.out]; exact ⟨_, _, ((c0.set 5 _).set 6 _).drew⟩
  · rw [← HC.out]; exact ((c2.other hRg.symm _).other hRg.symm _).drew

end Go.Proofs.Qxb6609416aDoor
