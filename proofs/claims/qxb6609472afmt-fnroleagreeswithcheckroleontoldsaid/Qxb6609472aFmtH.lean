import Derived.Test.Qxb6609472aFmtRows
import Derived.Test.Qxb6609472aFmtG
import Derived.Test.Qxb6609472aFmtTie
import Derived.Test.Qxb6609472aFmtCards
import Derived.ProofKit
import Derived.LaidMore
import Derived.OpenShut
import Derived.ShutString
import Derived.ChangeOld
import Derived.SliceStrings
import Derived.Stop.Joined
import Derived.Stop.JoinedTold
import Derived.Stop.LaidErr
import Derived.Deep.DeepWitnessRef
import Derived.RowKitTokens
import Derived.WalkSmall
import Derived.SevenTiedAt
namespace Go.Proofs.Qxb6609472aFmt
open Go.ChangeShapes Go.WideShapes Go.ChangeAt Go.WideMaps Go.WideElems Go.RowKit
open Go.ChangeMaps (open_string shut_string)

theorem own : ownKnob Tryf.prog.godebug = none := by kernel_rfl
theorem laidOut : laidOutB Tryf.prog = true := by kernel_rfl
/-- The listed variable's name, as the specification bears it. -/
def errN : String := Rows.fnRoleAgreesWithCheckRoleOnSpec.vars.headD ""
theorem gErr : Tryf.prog.globalNamed errN = some 0 := by kernel_rfl
theorem tErr : (Tryf.prog.globals[0]?).map (·.type) = some 54 := by kernel_rfl
theorem cells130 : Tryf.prog.cellsOf 130 = 1 := by kernel_rfl
theorem cells9 : Tryf.prog.cellsOf 9 = 1 := by kernel_rfl
/-- The type's name as the datum of a sentinel bears it. -/
def nameOf : DataW Unit → String
  | .iface n _ => n
  | _ => ""
theorem row128 (u : TypeId) (h : Tryf.prog.typeName? 3 u = some (nameOf Rows.laid_example_com_ramure_ramure_internal_world_ErrNotExist)) : u = 128 :=
  typeName_ptr_named (nm := "errors.errorString") (by kernel_rfl) (by kernel_rfl) (by decide) u (h.trans (by kernel_rfl))

def laid1 : List (String × DataW Unit) := Rows.fnRoleAgreesWithCheckRoleOnRow.laid

theorem door_met (os : Os) (args : Array Value) : laidMetH Tryf.prog laid1 ((World.doorLaid Tryf.prog 38 os).forCall (fun _ _ => 0) ⟨#[], args, []⟩).memory :=
  laidMetH_of_parts3 (fuel := 8) (laidMet_of_run' 8 (by kernel_rfl) (by kernel_rfl)) (by kernel_rfl) (by kernel_rfl)

/-- What the condition gives the walks: the sentinel's cell, and its text's. -/
theorem of_laid {W : World} (h : laidMetH Tryf.prog laid1 W) : ∃ ea s, W.var? Tryf.prog errN = some #[.iface 128 (.pointer (some ea))] ∧ W.cell? ⟨0, 0, none⟩ = some (.iface 128 (.pointer (some ea))) ∧ W.cell? ea = some (.string s) := by
  rw [MakeChecks.laidMetH_plain _ _ _ (by kernel_rfl)] at h
  have h' : laidMet Tryf.prog [(errN, Rows.laid_example_com_ramure_ramure_internal_world_ErrNotExist)] W := h
  obtain ⟨ea, s, hv, hc, _⟩ := laid_sentinel h' gErr tErr Tryf.underlying54 row128 Tryf.underlying128 Tryf.underlying130 rfl rfl Tryf.underlying9 cells130 cells9
  exact ⟨ea, s, hv, by simpa using World.var?_cell gErr hv 0, hc⟩

/-- From the reading of a []string to what the walks are told of it. -/
theorem strs_of {H : Type} {enc : TypeId × Value → H} {W : World} {a : Option Addr} {len cap : Nat} {d : DataW H} {p : List MemPlace} (h : DataW.Trod enc Tryf.prog W 0 (fun _ => true) true 22 (.slice a len cap) d p) : ∃ ss, IsStrs W a len cap ss := by
  obtain ⟨fuel, hf⟩ := h
  rcases open_strings Tryf.underlying22 Tryf.underlying9 cells9 hf with ⟨hcs, _⟩ | ⟨x, l, c, ss, hcs, _, hl, hm, hz, _, hcell, hws⟩
  · simp [Value.cells] at hcs
    obtain ⟨rfl, rfl, rfl⟩ := hcs
    exact ⟨[], rfl, (fun _ h => by cases h), .inl ⟨rfl, rfl, rfl⟩⟩
  · simp [Value.cells] at hcs
    obtain ⟨rfl, rfl, rfl⟩ := hcs
    simp only [if_true] at hz
    refine ⟨ss.take len, by rw [List.length_take]; omega, fun z hz' => hws z (List.mem_of_mem_take hz'), .inr ⟨x, rfl, fun k hk => ?_⟩⟩
    have hc := hcell k (by omega)
    obtain ⟨b, off, spot⟩ := x
    have hspot : spot = none := by
      have h0 := hcell 0 (by omega)
      simpa [Addr.add] using World.cell?_spot h0
    subst hspot
    refine ⟨b, off, rfl, ?_⟩
    rw [← add_plain, hc, List.getD_eq_getElem?_getD, List.getD_eq_getElem?_getD, List.getElem?_take, if_pos hk]

end Go.Proofs.Qxb6609472aFmt
