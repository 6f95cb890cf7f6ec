import Derived.Test.Qxb6609416aDoorC
namespace Go.Proofs.Qxb6609416aDoor
open Go.RowKit

set_option maxHeartbeats 1000000 in
set_option maxRecDepth 100000 in
/-- 'Read' into a short slice, the buffer empty, at the end: io.EOF. -/
theorem read_small_end (bR bB bY : Nat) (r i n m : Nat) (aD p : Option Addr) (N cN : Nat) (pv : Value) (lb lrs : Int) (eT : Nat) (ea : Option Addr) (w : World)
    (hR : Blk w bR 49 (rdC bB bY r r .nilIface lb lrs)) (hY : Blk w bY 45 [.slice aD N cN, .int .i64 i, pv]) (hi : N ≤ i) (hn0 : 0 < n) (hn : n < 4096) (he : w.cell? ⟨1, 0, none⟩ = some (.iface eT (.pointer ea))) (he1 : bR ≠ 1) (hRY : bR ≠ bY) :
    Calls Tryd.prog 32 #[.pointer (some ⟨bR, 0, none⟩), .slice p n m] w fun e w' => e = .returned (.tuple #[.int .i64 0, .iface eT (.pointer ea)]) ∧ Only (· = bR) w w' ∧ Blk w' bR 49 (rdC bB bY 0 0 .nilIface lb lrs) := by
  have h0 := hR.cell (i := 0) (by rfl)
  have h2 := hR.cell (i := 2) (by rfl)
  have h3 := hR.cell (i := 3) (by rfl)
  have h4 := hR.cell (i := 4) (by rfl)
  have f2 := hR.frozen 2
  have f3 := hR.frozen 3
  go_enter Tryd.func32, Tryd.ntmps32
  go_wp2_with fail
  go_quiet (fail)
  go_wp2_with fail
  have a0 : Blk (((w.drewN nq).setCell ⟨bR, 2, none⟩ (.int .i64 0)).setCell ⟨bR, 3, none⟩ (.int .i64 0)) bR 49 (rdC bB bY 0 0 .nilIface lb lrs) := by
    have e := ((hR.drewN nq).set 2 (.int .i64 0)).set 3 (.int .i64 0)
    simpa [rdC] using e
  have a1 : Blk (((w.drewN nq).setCell ⟨bR, 2, none⟩ (.int .i64 0)).setCell ⟨bR, 3, none⟩ (.int .i64 0)) bY 45 [.slice aD N cN, .int .i64 i, pv] := ((hY.drewN nq).other hRY.symm _).other hRY.symm _
  have a2 : Only (· = bR) w (((w.drewN nq).setCell ⟨bR, 2, none⟩ (.int .i64 0)).setCell ⟨bR, 3, none⟩ (.int .i64 0)) := ((Only.drewN (· = bR) _ _).set (p := ⟨bR, 2, none⟩) rfl _).set (p := ⟨bR, 3, none⟩) rfl _
  generalize (((w.drewN nq).setCell ⟨bR, 2, none⟩ (.int .i64 0)).setCell ⟨bR, 3, none⟩ (.int .i64 0)) = W at *
  have he' : W.cell? ⟨1, 0, none⟩ = some (.iface eT (.pointer ea)) := (a2.cell (p := ⟨1, 0, none⟩) (by simpa using he1.symm)).trans he
  clear h0 h2 h3 h4 f2 f3 he
  have HS : Hid (∀ w', Only (fun _ => False) W.drew w' → w'.cell? ⟨bR, 0, none⟩ = some (.slice (some ⟨bB, 0, none⟩) 4096 4096) ∧ w'.cell? ⟨bR, 1, none⟩ = some (.iface 35 (.pointer (some ⟨bY, 0, none⟩))) ∧ w'.cell? ⟨bR, 4, none⟩ = some .nilIface ∧ w'.frozen? ⟨bR, 4, none⟩ = false) := fun w' ho =>
    ⟨(ho.blk a0.drew (by simp)).cell (i := 0) rfl, (ho.blk a0.drew (by simp)).cell (i := 1) rfl, (ho.blk a0.drew (by simp)).cell (i := 4) rfl, (ho.blk a0.drew (by simp)).frozen 4⟩
  have HE : Hid (∀ m', Calls Tryd.prog 37 #[.pointer (some ⟨bY, 0, none⟩), .slice (some ⟨bB, 0, none⟩) 4096 m'] W.drew fun e w' => e = .returned (.tuple #[.int .i64 0, .iface eT (.pointer ea)]) ∧ Only (fun _ => False) W.drew w') := fun m' =>
    bytesRead_end bY i 4096 aD N cN pv _ m' eT ea _ a1.drew hi he'
  have hmy := method_y
  go_region_held3 (fun w' => w'.cell? ⟨bR, 0, none⟩ = some (.slice (some ⟨bB, 0, none⟩) 4096 4096) ∧ w'.cell? ⟨bR, 1, none⟩ = some (.iface 35 (.pointer (some ⟨bY, 0, none⟩)))) (first | exact ⟨(HS.out _ (Only.refl _ _)).1, (HS.out _ (Only.refl _ _)).2.1⟩ | exact ⟨(HS.out _ ‹_›).1, (HS.out _ ‹_›).2.1⟩ | (constructor <;> (rw [World.cell?_setCell_other _ _ _ _ (by simp)]) <;> first | exact (HS.out _ ‹_›).1 | exact (HS.out _ ‹_›).2.1))
    ((go_at_call 37; refine (HE.out _).mono ?_; rintro e w1 ⟨rfl, ho1⟩; have h4 := (HS.out _ ho1).2.2.1; have f4 := (HS.out _ ho1).2.2.2))
  rename_i w1 ho1 _ _ _
  have b0 : Blk w1 bR 49 (rdC bB bY 0 0 .nilIface lb lrs) := ho1.blk a0.drew (by simp)
  have b1 : Blk (w1.setCell ⟨bR, 4, none⟩ (.iface eT (.pointer ea))) bR 49 (rdC bB bY 0 0 (.iface eT (.pointer ea)) lb lrs) := b0.set 4 _
  have o1 : Only (· = bR) w (w1.setCell ⟨bR, 4, none⟩ (.iface eT (.pointer ea))) := (a2.trans ((Only.drew _ _).trans (ho1.mono (by simp)))).set (p := ⟨bR, 4, none⟩) rfl _
  generalize w1.setCell ⟨bR, 4, none⟩ (.iface eT (.pointer ea)) = W2 at *
  have c4 := b1.cell (i := 4) (by rfl)
  have g4 := b1.frozen 4
  clear HS HE hmy
  go_wp2_with (go_at_call 35; refine (readErr_some bR eT ea _ c4 g4).mono ?_; rintro e w' ⟨rfl, rfl⟩)
  go_ret2
  exact ⟨rfl, o1.set (p := ⟨bR, 4, none⟩) rfl _, b1.set 4 _⟩

end Go.Proofs.Qxb6609416aDoor
