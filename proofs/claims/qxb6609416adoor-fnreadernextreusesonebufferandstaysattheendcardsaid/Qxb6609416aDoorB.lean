import Derived.Test.Qxb6609416aDoorProg
import Derived.Test.Qxb6609416aDoorA
import Derived.WalkSpells
import Derived.BigQuiet
import Derived.Deep.QuietTactic
import Derived.Deep.RegionHeld3
namespace Go.Proofs.Qxb6609416aDoor
open Go.RowKit

/-- '(*bufio.Reader).readErr': the error is handed out, and struck. -/
theorem readErr_nil (b : Nat) (w : World) (hc : w.cell? ⟨b, 4, none⟩ = some .nilIface) (hf : w.frozen? ⟨b, 4, none⟩ = false) :
    Calls Tryd.prog 35 #[.pointer (some ⟨b, 0, none⟩)] w fun e w' => e = .returned .nilIface ∧ w' = w.setCell ⟨b, 4, none⟩ .nilIface := by
  go_enter Tryd.func35, Tryd.ntmps35
  go_wp2
  go_ret
  exact ⟨rfl, rfl⟩
theorem readErr_some (b t : Nat) (a : Option Addr) (w : World) (hc : w.cell? ⟨b, 4, none⟩ = some (.iface t (.pointer a))) (hf : w.frozen? ⟨b, 4, none⟩ = false) :
    Calls Tryd.prog 35 #[.pointer (some ⟨b, 0, none⟩)] w fun e w' => e = .returned (.iface t (.pointer a)) ∧ w' = w.setCell ⟨b, 4, none⟩ .nilIface := by
  go_enter Tryd.func35, Tryd.ntmps35
  go_wp2
  go_ret
  exact ⟨rfl, rfl⟩

/-- '(*bytes.Reader).Read' at the end of its bytes: io.EOF. -/
theorem bytesRead_end (bY : Nat) (i n : Nat) (aD : Option Addr) (N cN : Nat) (pv : Value) (p : Option Addr) (m : Nat) (eT : Nat) (ea : Option Addr) (w : World)
    (hy : Blk w bY 45 [.slice aD N cN, .int .i64 i, pv]) (hi : N ≤ i) (he : w.cell? ⟨1, 0, none⟩ = some (.iface eT (.pointer ea))) :
    Calls Tryd.prog 37 #[.pointer (some ⟨bY, 0, none⟩), .slice p n m] w fun e w' => e = .returned (.tuple #[.int .i64 0, .iface eT (.pointer ea)]) ∧ Only (fun _ => False) w w' := by
  have h0 := hy.cell (i := 0) (by rfl)
  have h1 := hy.cell (i := 1) (by rfl)
  go_enter Tryd.func37, Tryd.ntmps37
  go_wp2
  go_quiet (fail)
  go_wp2
  go_quiet (fail)
  go_wp2
  go_ret2
  exact ⟨rfl, (Only.drewN _ _ _).trans (Only.drewN _ _ _)⟩

/-- '(*bytes.Reader).Read' ahead of the end: as many bytes as fit. -/
theorem bytesRead_some (bY bD g off : Nat) (i n : Nat) (N cN : Nat) (D cur : List Value) (pv : Value) (m k : Nat) (tg : TypeId) (w : World)
    (hy : Blk w bY 45 [.slice (some ⟨bD, 0, none⟩) N cN, .int .i64 i, pv]) (hi : i < N) (hNc : N ≤ cN) (hn : N ≤ 1048576) (hD : Blk w bD 5 D) (hDl : D.length = N) (hD1 : ∀ v ∈ D, v.oneCell' = true)
    (hg : Blk w g tg cur) (hfit : off + n ≤ cur.length) (hgY : g ≠ bY) (hYD : bY ≠ bD) (hk : k = min n (N - i)) :
    Calls Tryd.prog 37 #[.pointer (some ⟨bY, 0, none⟩), .slice (some ⟨g, off, none⟩) n m] w fun e w' => e = .returned (.tuple #[.int .i64 k, .nilIface]) ∧ Only (fun k => k = g ∨ k = bY) w w' ∧
      Blk w' bY 45 [.slice (some ⟨bD, 0, none⟩) N cN, .int .i64 (i + k : Nat), .int .i64 (-1)] ∧ Blk w' g tg (splice cur off ((D.drop i).take k)) := by
  have hkn : k ≤ n := by omega
  have hkN : i + k ≤ N := by omega
  have Hlen : Hid (((D.drop i).take k).length = k) := by show _ = _; rw [List.length_take, List.length_drop, hDl]; omega
  have HkM : Hid (((D.drop i).take k).length = Nat.min (N - i) n) := by show _ = _; rw [Hlen.out]; show _ = min _ _; omega
  clear hk
  have h0 := hy.cell (i := 0) (by rfl)
  have h1 := hy.cell (i := 1) (by rfl)
  have h2 := hy.cell (i := 2) (by rfl)
  have f1 := hy.frozen 1
  have f2 := hy.frozen 2
  go_enter Tryd.func37, Tryd.ntmps37
  go_wp2
  go_quiet (fail)
  go_wp2
  have a0 : Blk ((w.drewN nq).setCell ⟨bY, 2, none⟩ (.int .i64 (-1))) bY 45 [.slice (some ⟨bD, 0, none⟩) N cN, .int .i64 i, .int .i64 (-1)] := (hy.drewN nq).set 2 _
  have a1 : Blk ((w.drewN nq).setCell ⟨bY, 2, none⟩ (.int .i64 (-1))) bD 5 D := (hD.drewN nq).other (by simpa using hYD.symm) _
  have a2 : Blk ((w.drewN nq).setCell ⟨bY, 2, none⟩ (.int .i64 (-1))) g tg cur := (hg.drewN nq).other (by simpa using hgY) _
  have a3 : Only (fun k => k = g ∨ k = bY) w ((w.drewN nq).setCell ⟨bY, 2, none⟩ (.int .i64 (-1))) := (Only.drewN _ _ _).set (by simp) _
  generalize ((w.drewN nq).setCell ⟨bY, 2, none⟩ (.int .i64 (-1))) = W1 at *
  clear h0 h1 h2 f1 f2
  have HS : Hid (∀ w', Only (fun k => k = g) W1.drew w' → w'.cell? ⟨bY, 0, none⟩ = some (.slice (some ⟨bD, 0, none⟩) N cN) ∧ w'.cell? ⟨bY, 1, none⟩ = some (.int .i64 i)) := fun w' ho =>
    ⟨(ho.cell (by simpa using hgY.symm)).trans (a0.cell (i := 0) rfl), (ho.cell (by simpa using hgY.symm)).trans (a0.cell (i := 1) rfl)⟩
  have i0 : (0 : Int) ≤ (i : Int) := by omega
  have i1 : (i : Int) ≤ (N : Int) := by omega
  have i2 : ¬ cN = i := by omega
  have hcs : ∀ v ∈ (D.drop i).take k, v.oneCell' = true := fun v hv => hD1 v (List.mem_of_mem_drop (List.mem_of_mem_take hv))
  have hfit' : off + ((D.drop i).take k).length ≤ cur.length := by rw [Hlen.out]; omega
  have hpos : 0 < ((D.drop i).take k).length → (some ⟨g, off, none⟩ : Option Addr) = some ⟨g, off, none⟩ ∧ ∃ ad, (some ⟨bD, i, none⟩ : Option Addr) = some ad ∧ ∀ j v, ((D.drop i).take k)[j]? = some v → W1.drew.cell? (ad.add j) = some v := by
    intro _
    refine ⟨rfl, _, rfl, fun j v hv => ?_⟩
    rw [Addr.add_lit]
    refine a1.drew.cell ?_
    rw [List.getElem?_take] at hv
    split at hv
    · rw [List.getElem?_drop] at hv; exact hv
    · cases hv
  obtain ⟨cs, HC⟩ : ∃ cs, Hid (cs = (D.drop i).take k) := ⟨_, rfl⟩
  rw [← HC.out] at Hlen HkM hcs hfit' hpos
  go_region_held3 (fun w' => w'.cell? ⟨bY, 0, none⟩ = some (.slice (some ⟨bD, 0, none⟩) N cN) ∧ w'.cell? ⟨bY, 1, none⟩ = some (.int .i64 i)) (first | exact HS.out _ (Only.refl _ _) | exact HS.out _ ‹_›)
    ((refine step_copy_blk rfl (.tmp 20) (.tmp 29) 22 22 rfl 5 Tryd.underlying22 (by kernel_rfl) (some ⟨g, off, none⟩) (some ⟨bD, i, none⟩) n m (N - i) (cN - i) rfl rfl g off cur tg a2.drew cs HkM.out hpos hfit' hcs ?_; intro w2 hB2 hO2))
  rw [Hlen.out]
  have b0 : Blk w2 bY 45 [.slice (some ⟨bD, 0, none⟩) N cN, .int .i64 i, .int .i64 (-1)] := hO2.blk a0.drew hgY.symm
  have b3 : Only (fun k => k = g ∨ k = bY) w w2 := a3.trans ((Only.drew _ _).trans (hO2.mono fun _ h => .inl h))
  have g1 := b0.cell (i := 1) (by rfl)
  have e1 := b0.frozen 1
  clear HS hpos hcs hfit' a0 a1 a2 a3
  go_wp2
  go_ret2
  refine ⟨rfl, b3.set (.inr rfl) _, ?_, HC.out ▸ hB2.out.other hgY _⟩
  simpa using b0.set 1 (.int .i64 (i + k : Nat))

end Go.Proofs.Qxb6609416aDoor
