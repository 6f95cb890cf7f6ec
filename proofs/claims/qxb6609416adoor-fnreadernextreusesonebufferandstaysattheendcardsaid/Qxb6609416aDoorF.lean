import Derived.Test.Qxb6609416aDoorC
namespace Go.Proofs.Qxb6609416aDoor
open Go.RowKit

set_option maxHeartbeats 4000000 in
set_option maxRecDepth 100000 in
/-- 'Read' into a short slice, the buffer empty, ahead of the end: the buffer is filled, then read. -/
theorem read_small_some (bR bB bY bD g off : Nat) (r0 i n m wr k : Nat) (N cN : Nat) (D cur0 row : List Value) (tg : TypeId) (pv : Value) (lb lrs : Int) (w : World)
    (hR : Blk w bR 49 (rdC bB bY r0 r0 .nilIface lb lrs)) (hY : Blk w bY 45 [.slice (some ⟨bD, 0, none⟩) N cN, .int .i64 i, pv]) (hi : i < N) (hNc : N ≤ cN) (hN : N ≤ 1048576) (hD : Blk w bD 5 D) (hDl : D.length = N) (hD1 : ∀ v ∈ D, ∃ z : Nat, z ≤ 255 ∧ v = .int .u8 z)
    (hB : Blk w bB 5 cur0) (hcl : cur0.length = 4096) (hc1 : ∀ v ∈ cur0, ∃ z : Nat, z ≤ 255 ∧ v = .int .u8 z)
    (hg : Blk w g tg row) (hfit : off + n ≤ row.length) (hn0 : 0 < n) (hn2 : n < 4096) (hwr : wr = min 4096 (N - i)) (hk : k = min n wr) (hRY : bR ≠ bY) (hRB : bR ≠ bB) (hRg : bR ≠ g) (hRD : bR ≠ bD) (hgB : g ≠ bB) (hgY : g ≠ bY) (hBY : bB ≠ bY) (hYD : bY ≠ bD) :
    Calls Tryd.prog 32 #[.pointer (some ⟨bR, 0, none⟩), .slice (some ⟨g, off, none⟩) n m] w fun e w' => e = .returned (.tuple #[.int .i64 k, .nilIface]) ∧ Only (fun k => k = bR ∨ k = g ∨ k = bB ∨ k = bY) w w' ∧
      (∃ lb lrs, Blk w' bR 49 (rdC bB bY k wr .nilIface lb lrs)) ∧ Blk w' bB 5 (splice cur0 0 ((D.drop i).take wr)) ∧ Blk w' bY 45 [.slice (some ⟨bD, 0, none⟩) N cN, .int .i64 (i + wr : Nat), .int .i64 (-1)] ∧
      Blk w' g tg (splice row off (((splice cur0 0 ((D.drop i).take wr)).drop 0).take k)) := by
  have hw0 : 0 < wr := by omega
  have hw : wr ≤ 4096 := by omega
  have hkn : k ≤ n := by omega
  have hk0 : 0 < k := by omega
  have hkw : k ≤ wr := by omega
  have hwN : i + wr ≤ N := by omega
  have Hk := (show Hid (k = min n wr) from hk)
  have Hwr := (show Hid (wr = min 4096 (N - i)) from hwr)
  clear hk hwr
  have h0 := hR.cell (i := 0) (by rfl)
  have h2 := hR.cell (i := 2) (by rfl)
  have h3 := hR.cell (i := 3) (by rfl)
  have h4 := hR.cell (i := 4) (by rfl)
  have f2 := hR.frozen 2
  have f3 := hR.frozen 3
  go_enter Tryd.func32, Tryd.ntmps32
  go_wp2_with fail
  go_quiet (fail)
  go_wp2_with fail
  have a0 : Blk (((w.drewN nq).setCell ⟨bR, 2, none⟩ (.int .i64 0)).setCell ⟨bR, 3, none⟩ (.int .i64 0)) bR 49 (rdC bB bY 0 0 .nilIface lb lrs) := by
    have e := ((hR.drewN nq).set 2 (.int .i64 0)).set 3 (.int .i64 0)
    simpa [rdC] using e
  have a1 : Blk (((w.drewN nq).setCell ⟨bR, 2, none⟩ (.int .i64 0)).setCell ⟨bR, 3, none⟩ (.int .i64 0)) bY 45 [.slice (some ⟨bD, 0, none⟩) N cN, .int .i64 i, pv] := ((hY.drewN nq).other hRY.symm _).other hRY.symm _
  have a4 : Blk (((w.drewN nq).setCell ⟨bR, 2, none⟩ (.int .i64 0)).setCell ⟨bR, 3, none⟩ (.int .i64 0)) bD 5 D := ((hD.drewN nq).other hRD.symm _).other hRD.symm _
  have a5 : Blk (((w.drewN nq).setCell ⟨bR, 2, none⟩ (.int .i64 0)).setCell ⟨bR, 3, none⟩ (.int .i64 0)) bB 5 cur0 := ((hB.drewN nq).other hRB.symm _).other hRB.symm _
  have a6 : Blk (((w.drewN nq).setCell ⟨bR, 2, none⟩ (.int .i64 0)).setCell ⟨bR, 3, none⟩ (.int .i64 0)) g tg row := ((hg.drewN nq).other hRg.symm _).other hRg.symm _
  have a2 : Only (fun k => k = bR ∨ k = g ∨ k = bB ∨ k = bY) w (((w.drewN nq).setCell ⟨bR, 2, none⟩ (.int .i64 0)).setCell ⟨bR, 3, none⟩ (.int .i64 0)) := ((Only.drewN _ _ _).set (p := ⟨bR, 2, none⟩) (.inl rfl) _).set (p := ⟨bR, 3, none⟩) (.inl rfl) _
  generalize (((w.drewN nq).setCell ⟨bR, 2, none⟩ (.int .i64 0)).setCell ⟨bR, 3, none⟩ (.int .i64 0)) = W at *
  clear h0 h2 h3 h4 f2 f3
  have HS : Hid (∀ w', Only (fun k => k = bB ∨ k = bY) W.drew w' → w'.cell? ⟨bR, 0, none⟩ = some (.slice (some ⟨bB, 0, none⟩) 4096 4096) ∧ w'.cell? ⟨bR, 1, none⟩ = some (.iface 35 (.pointer (some ⟨bY, 0, none⟩))) ∧ w'.cell? ⟨bR, 4, none⟩ = some .nilIface ∧ w'.frozen? ⟨bR, 4, none⟩ = false) := fun w' ho =>
    ⟨(ho.blk a0.drew (by simp [hRB, hRY])).cell (i := 0) rfl, (ho.blk a0.drew (by simp [hRB, hRY])).cell (i := 1) rfl, (ho.blk a0.drew (by simp [hRB, hRY])).cell (i := 4) rfl, (ho.blk a0.drew (by simp [hRB, hRY])).frozen 4⟩
  have HE : Hid (∀ m', Calls Tryd.prog 37 #[.pointer (some ⟨bY, 0, none⟩), .slice (some ⟨bB, 0, none⟩) 4096 m'] W.drew fun e w' => e = .returned (.tuple #[.int .i64 wr, .nilIface]) ∧ Only (fun k => k = bB ∨ k = bY) W.drew w' ∧
      Blk w' bY 45 [.slice (some ⟨bD, 0, none⟩) N cN, .int .i64 (i + wr : Nat), .int .i64 (-1)] ∧ Blk w' bB 5 (splice cur0 0 ((D.drop i).take wr))) := fun m' =>
    bytesRead_some bY bD bB 0 i 4096 N cN D cur0 pv m' wr 5 _ a1.drew hi hNc hN a4.drew hDl (fun v hv => by obtain ⟨z, _, rfl⟩ := hD1 v hv; rfl) a5.drew (by omega) hBY hYD Hwr.out
  have hmy := method_y
  go_region_held3 (fun w' => w'.cell? ⟨bR, 0, none⟩ = some (.slice (some ⟨bB, 0, none⟩) 4096 4096) ∧ w'.cell? ⟨bR, 1, none⟩ = some (.iface 35 (.pointer (some ⟨bY, 0, none⟩)))) (first | exact ⟨(HS.out _ (Only.refl _ _)).1, (HS.out _ (Only.refl _ _)).2.1⟩ | exact ⟨(HS.out _ ‹_›).1, (HS.out _ ‹_›).2.1⟩ | (constructor <;> (rw [World.cell?_setCell_other _ _ _ _ (by simp)]) <;> first | exact (HS.out _ ‹_›).1 | exact (HS.out _ ‹_›).2.1))
    ((go_at_call 37; refine (HE.out _).mono ?_; rintro e w1 ⟨rfl, ho1, hy1, hb1⟩; have h4 := (HS.out _ ho1).2.2.1; have f4 := (HS.out _ ho1).2.2.2))
  rename_i w1 ho1 hy1 hb1 _ _ _
  have b0 : Blk (w1.setCell ⟨bR, 4, none⟩ .nilIface) bR 49 (rdC bB bY 0 0 .nilIface lb lrs) := (ho1.blk a0.drew (by simp [hRB, hRY])).set 4 _
  have b1 : Blk (w1.setCell ⟨bR, 4, none⟩ .nilIface) bY 45 [.slice (some ⟨bD, 0, none⟩) N cN, .int .i64 (i + wr : Nat), .int .i64 (-1)] := hy1.other hRY.symm _
  have b5 : Blk (w1.setCell ⟨bR, 4, none⟩ .nilIface) bB 5 (splice cur0 0 ((D.drop i).take wr)) := hb1.other hRB.symm _
  have b6 : Blk (w1.setCell ⟨bR, 4, none⟩ .nilIface) g tg row := (ho1.blk a6.drew (by simp [hgB, hgY])).other hRg.symm _
  have b2 : Only (fun k => k = bR ∨ k = g ∨ k = bB ∨ k = bY) w (w1.setCell ⟨bR, 4, none⟩ .nilIface) := (a2.trans ((Only.drew _ _).trans (ho1.mono (fun _ h => .inr (.inr h))))).set (p := ⟨bR, 4, none⟩) (.inl rfl) _
  generalize w1.setCell ⟨bR, 4, none⟩ .nilIface = W2 at *
  clear HS HE hmy a0 a1 a4 a5 a6 a2 ho1 hy1 hb1
  have h3 := b0.cell (i := 3) (by rfl)
  have f3 := b0.frozen 3
  have hwn : ((wr : Int) == 0) = false := by simp; omega
  have hcl1 : (splice cur0 0 ((D.drop i).take wr)).length = 4096 := by
    rw [length_splice _ _ _ (by rw [List.length_take, List.length_drop]; omega), hcl]
  have hc2 : ∀ v ∈ splice cur0 0 ((D.drop i).take wr), ∃ z : Nat, z ≤ 255 ∧ v = .int .u8 z := by
    intro v hv
    unfold splice at hv
    rcases List.mem_append.1 hv with h | h
    · exact hc1 v (List.mem_of_mem_take h)
    · rcases List.mem_append.1 h with h | h
      · exact hD1 v (List.mem_of_mem_drop (List.mem_of_mem_take h))
      · exact hc1 v (List.mem_of_mem_drop h)
  clear hcl hc1
  obtain ⟨cur, Hcur⟩ : ∃ cur, Hid (cur = splice cur0 0 ((D.drop i).take wr)) := ⟨_, rfl⟩
  rw [← Hcur.out] at b5 hcl1 hc2
  have hcl := hcl1
  have hc1 := hc2
  clear hcl1 hc2 hD1 hDl
  go_wp2_with fail
  obtain ⟨r, Hr⟩ : ∃ r, Hid (r = 0) := ⟨0, rfl⟩
  have a0 : Blk (W2.setCell ⟨bR, 3, none⟩ (.int .i64 wr)) bR 49 (rdC bB bY r wr .nilIface lb lrs) := by rw [Hr.out]; exact b0.set 3 _
  have a1 : Blk (W2.setCell ⟨bR, 3, none⟩ (.int .i64 wr)) bB 5 cur := b5.other hRB.symm _
  have a2 : Blk (W2.setCell ⟨bR, 3, none⟩ (.int .i64 wr)) g tg row := b6.other hRg.symm _
  have y0 : Blk (W2.setCell ⟨bR, 3, none⟩ (.int .i64 wr)) bY 45 [.slice (some ⟨bD, 0, none⟩) N cN, .int .i64 (i + wr : Nat), .int .i64 (-1)] := b1.other hRY.symm _
  have a3 : Only (fun k => k = bR ∨ k = g ∨ k = bB ∨ k = bY) w (W2.setCell ⟨bR, 3, none⟩ (.int .i64 wr)) := b2.set (p := ⟨bR, 3, none⟩) (.inl rfl) _
  generalize W2.setCell ⟨bR, 3, none⟩ (.int .i64 wr) = W1 at *
  clear b0 b1 b5 b6 b2 h3 f3 hwn
  have hr : r < wr := by rw [Hr.out]; exact hw0
  have hkw : r + k ≤ wr := by rw [Hr.out]; omega
  have Hlen : Hid (((cur.drop r).take k).length = k) := by show _ = _; rw [List.length_take, List.length_drop, hcl]; omega
  have HkM : Hid (((cur.drop r).take k).length = Nat.min (wr - r) n) := by show _ = _; rw [Hlen.out, Hk.out, Hr.out]; show _ = min _ _; omega
  have HS : Hid (∀ w', Only (fun k => k = g) W1.drew w' → w'.cell? ⟨bR, 0, none⟩ = some (.slice (some ⟨bB, 0, none⟩) 4096 4096) ∧ w'.cell? ⟨bR, 2, none⟩ = some (.int .i64 r) ∧ w'.cell? ⟨bR, 3, none⟩ = some (.int .i64 wr)) := fun w' ho =>
    ⟨(ho.blk a0.drew hRg).cell (i := 0) rfl, (ho.blk a0.drew hRg).cell (i := 2) rfl, (ho.blk a0.drew hRg).cell (i := 3) rfl⟩
  have i0 : (0 : Int) ≤ (r : Int) := by omega
  have i1 : (r : Int) ≤ (wr : Int) := by omega
  have i2 : (wr : Int) ≤ (4096 : Int) := by omega
  have i3 : ¬ 4096 = r := by omega
  have hcs : ∀ v ∈ (cur.drop r).take k, v.oneCell' = true := fun v hv => by obtain ⟨z, _, rfl⟩ := hc1 v (List.mem_of_mem_drop (List.mem_of_mem_take hv)); rfl
  have hfit' : off + ((cur.drop r).take k).length ≤ row.length := by rw [Hlen.out]; omega
  have hpos : 0 < ((cur.drop r).take k).length → (some ⟨g, off, none⟩ : Option Addr) = some ⟨g, off, none⟩ ∧ ∃ ad, (some ⟨bB, r, none⟩ : Option Addr) = some ad ∧ ∀ j v, ((cur.drop r).take k)[j]? = some v → W1.drew.cell? (ad.add j) = some v := by
    intro _
    refine ⟨rfl, _, rfl, fun j v hv => ?_⟩
    rw [Addr.add_lit]
    refine a1.drew.cell ?_
    rw [List.getElem?_take] at hv
    split at hv
    · rw [List.getElem?_drop] at hv; exact hv
    · cases hv
  obtain ⟨cs, HC⟩ : ∃ cs, Hid (cs = (cur.drop r).take k) := ⟨_, rfl⟩
  rw [← HC.out] at Hlen HkM hcs hfit' hpos
  go_region_held3 (fun w' => w'.cell? ⟨bR, 0, none⟩ = some (.slice (some ⟨bB, 0, none⟩) 4096 4096) ∧ w'.cell? ⟨bR, 2, none⟩ = some (.int .i64 r) ∧ w'.cell? ⟨bR, 3, none⟩ = some (.int .i64 wr)) (first | exact HS.out _ (Only.refl _ _) | exact HS.out _ ‹_›)
    ((refine step_copy_blk rfl (.tmp 109) (.tmp 122) 22 22 rfl 5 Tryd.underlying22 (by kernel_rfl) (some ⟨g, off, none⟩) (some ⟨bB, r, none⟩) n m (wr - r) (4096 - r) rfl rfl g off row tg a2.drew cs HkM.out hpos hfit' hcs ?_; intro w2 hB2 hO2))
  rw [Hlen.out]
  have b0 : Blk w2 bR 49 (rdC bB bY r wr .nilIface lb lrs) := hO2.blk a0.drew hRg
  have b1 : Blk w2 bB 5 cur := hO2.blk a1.drew hgB.symm
  have y1 := hO2.blk y0.drew hgY.symm
  have b3 : Only (fun k => k = bR ∨ k = g ∨ k = bB ∨ k = bY) w w2 := a3.trans ((Only.drew _ _).trans (hO2.mono fun _ h => .inr (.inl h)))
  have g2 := b0.cell (i := 2) (by rfl)
  have e2 := b0.frozen 2
  clear HS hpos hcs hfit' a0 a1 a2 a3
  go_wp2_with fail
  have c0 : Blk (w2.setCell ⟨bR, 2, none⟩ (.int .i64 ((r : Int) + (k : Int)))) bR 49 (rdC bB bY (r + k) wr .nilIface lb lrs) := by
    have e := b0.set 2 (.int .i64 ((r + k : Nat) : Int))
    simpa [rdC] using e
  have c1 : Blk (w2.setCell ⟨bR, 2, none⟩ (.int .i64 ((r : Int) + (k : Int)))) bB 5 cur := b1.other hRB.symm _
  have c2 : Blk (w2.setCell ⟨bR, 2, none⟩ (.int .i64 ((r : Int) + (k : Int)))) g tg (splice row off cs) := hB2.out.other hRg.symm _
  have c3 : Only (fun k => k = bR ∨ k = g ∨ k = bB ∨ k = bY) w (w2.setCell ⟨bR, 2, none⟩ (.int .i64 ((r : Int) + (k : Int)))) := b3.set (p := ⟨bR, 2, none⟩) (.inl rfl) _
  have y2 := y1.other (a := ⟨bR, 2, none⟩) hRY.symm (.int .i64 ((r : Int) + (k : Int)))
  generalize (w2.setCell ⟨bR, 2, none⟩ (.int .i64 ((r : Int) + (k : Int)))) = W3 at *
  obtain ⟨q, hq⟩ : ∃ q, q = r + k := ⟨_, rfl⟩
  rw [← hq] at c0
  obtain ⟨z, hz255, hz⟩ : ∃ z : Nat, z ≤ 255 ∧ cur[q - 1]? = some (.int .u8 z) := by
    have hm : cur[q - 1]? = some (cur[q - 1]'(by omega)) := List.getElem?_eq_getElem _
    obtain ⟨z, hz255, hz⟩ := hc1 _ (List.mem_of_getElem? hm)
    exact ⟨z, hz255, by rw [hm, hz]⟩
  clear g2 e2 b0 b1 b3
  have d0 := c0.cell (i := 0) (by rfl)
  have d2 := c0.cell (i := 2) (by rfl)
  have d5 := c0.cell (i := 5) (by rfl)
  have d6 := c0.cell (i := 6) (by rfl)
  have p5 := c0.frozen 5
  have p6 := c0.frozen 6
  have dz := c1.cell hz
  have q0 : 0 < q := by omega
  have q1 : q ≤ 4096 := by omega
  have Hq := (show Hid (q = r + k) from hq)
  have eq1 : ((q : Int) - 1).toNat = q - 1 := by omega
  have j0 : (0 : Int) ≤ (q : Int) - 1 := by omega
  have j1 : (1 : Int) ≤ (q : Int) := by omega
  have j2 : (q : Int) - 1 < 4096 := by omega
  have j3 : (q : Int) - 1 < ((4096 : Nat) : Int) := by omega
  have wq : IntKind.i64.wrap ((q : Int) - 1) = (q : Int) - 1 := by rw [IntKind.wrap_i64]; omega
  have wz : IntKind.i64.wrap (z : Int) = (z : Int) := by rw [IntKind.wrap_i64]; omega
  clear hq hz
  go_region_held3 (fun w' => w'.cell? ⟨bR, 0, none⟩ = some (.slice (some ⟨bB, 0, none⟩) 4096 4096) ∧ w'.cell? ⟨bR, 2, none⟩ = some (.int .i64 q) ∧ w'.cell? ⟨bB, q - 1, none⟩ = some (.int .u8 z))
    (first | exact ⟨d0, d2, dz⟩ | (refine ⟨?_, ?_, ?_⟩ <;> (try rw [World.cell?_drew]) <;> rw [World.cell?_setCell_other _ _ _ _ (by first | (simp; done) | simp [hRB])] <;> first | exact d0 | exact d2 | exact dz)) (fail)
  go_wp2_with fail
  go_ret2
  refine ⟨rfl, ?_, ?_, ?_, ?_, ?_⟩
  · exact ((c3.set (p := ⟨bR, 5, none⟩) (.inl rfl) _).set (p := ⟨bR, 6, none⟩) (.inl rfl) _).trans (Only.drew _ _)
  · have eq : q = k := by rw [Hq.out, Hr.out]; omega
    rw [← eq]; exact ⟨_, _, ((c0.set 5 _).set 6 _).drew⟩
  · rw [← Hcur.out]; exact ((c1.other hRB.symm _).other hRB.symm _).drew
  · exact ((y2.other hRY.symm _).other hRY.symm _).drew
  · rw [← Hcur.out, ← Hr.out, ← HC.out]; exact ((c2.other hRg.symm _).other hRg.symm _).drew

end Go.Proofs.Qxb6609416aDoor
