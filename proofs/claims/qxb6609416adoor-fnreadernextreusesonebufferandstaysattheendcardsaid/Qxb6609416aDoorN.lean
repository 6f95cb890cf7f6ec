import Derived.Test.Qxb6609416aDoorRows
import Derived.Test.Qxb6609416aDoorL
import Derived.ProofKit
import Derived.LaidMore
import Derived.OpenShut
import Derived.ChangeOld
import Derived.Stop.Joined
import Derived.Stop.LaidErr
namespace Go.Proofs.Qxb6609416aDoor
open Go.ChangeShapes Go.WideShapes Go.ChangeAt Go.WideMaps Go.WideElems Go.RowKit

theorem own : ownKnob Tryd.prog.godebug = none := by kernel_rfl
theorem laidOut : laidOutB Tryd.prog = true := by kernel_rfl
theorem gEOF : Tryd.prog.globalNamed "io.EOF" = some 1 := by kernel_rfl
theorem gUEOF : Tryd.prog.globalNamed "io.ErrUnexpectedEOF" = some 2 := by kernel_rfl
theorem tEOF : (Tryd.prog.globals[1]?).map (·.type) = some 30 := by kernel_rfl
theorem tUEOF : (Tryd.prog.globals[2]?).map (·.type) = some 30 := by kernel_rfl
theorem cells71 : Tryd.prog.cellsOf 71 = 1 := by kernel_rfl
theorem cells9 : Tryd.prog.cellsOf 9 = 1 := by kernel_rfl
/-- The type's name as the datum of a sentinel bears it. -/
def nameOf : DataW Unit → String
  | .iface n _ => n
  | _ => ""
theorem row52 (u : TypeId) (h : Tryd.prog.typeName? 3 u = some (nameOf Rows.laid_io_EOF)) : u = 52 :=
  typeName_ptr_named (nm := "errors.errorString") (by kernel_rfl) (by kernel_rfl) (by decide) u (h.trans (by kernel_rfl))

def laid3 : List (String × DataW Unit) := [("io.ErrShortBuffer", Rows.laid_io_ErrShortBuffer), ("io.EOF", Rows.laid_io_EOF), ("io.ErrUnexpectedEOF", Rows.laid_io_ErrUnexpectedEOF)]

/-- The door's own heap meets the condition. -/
theorem door_met (os : Os) (args : Array Value) : laidMetH Tryd.prog laid3 ((World.doorLaid Tryd.prog 85 os).forCall (fun _ _ => 0) ⟨#[], args, []⟩).memory :=
  laidMetH_of_parts3 (fuel := 8) (laidMet_of_run' 8 (by kernel_rfl) (by kernel_rfl)) (by kernel_rfl) (by kernel_rfl)

/-- What the condition gives the walks: the two sentinels' cells. -/
theorem of_laid {W : World} (h : laidMetH Tryd.prog laid3 W) : ∃ ea ua, W.cell? ⟨1, 0, none⟩ = some (.iface 52 (.pointer (some ea))) ∧ W.cell? ⟨2, 0, none⟩ = some (.iface 52 (.pointer (some ua))) := by
  rw [MakeChecks.laidMetH_plain _ _ _ (by kernel_rfl)] at h
  have h1 := laidMet.tail h
  have h2 := laidMet.tail h1
  obtain ⟨ea, _, hv1, _⟩ := laid_sentinel h1 gEOF tEOF Tryd.underlying30 row52 Tryd.underlying52 Tryd.underlying71 rfl rfl Tryd.underlying9 cells71 cells9
  obtain ⟨ua, _, hv2, _⟩ := laid_sentinel h2 gUEOF tUEOF Tryd.underlying30 row52 Tryd.underlying52 Tryd.underlying71 rfl rfl Tryd.underlying9 cells71 cells9
  exact ⟨ea, ua, by simpa using World.var?_cell gEOF hv1 0, by simpa using World.var?_cell gUEOF hv2 0⟩

/-- From the reading of a []byte to what the walks are told of it. -/
theorem bytes_of {H : Type} {enc : TypeId × Value → H} {W : World} {a : Option Addr} {len cap : Nat} {d : DataW H} {p : List MemPlace} (h : DataW.Trod enc Tryd.prog W 0 (fun _ => true) true 22 (.slice a len cap) d p) : ∃ zs, IsBytes W a len cap zs := by
  obtain ⟨fuel, hf⟩ := h
  rcases open_ints Tryd.underlying22 Tryd.underlying5 (by kernel_rfl) hf with ⟨hcs, _⟩ | ⟨x, l, c, zs, hcs, _, hl, hm, hz, _, hcell, hwz⟩
  · simp [Value.cells] at hcs
    obtain ⟨rfl, rfl, rfl⟩ := hcs
    exact ⟨[], rfl, (fun _ h => by cases h), .inl ⟨rfl, rfl, rfl⟩⟩
  · simp [Value.cells] at hcs
    obtain ⟨rfl, rfl, rfl⟩ := hcs
    simp only [if_true] at hz
    refine ⟨zs.take len, by rw [List.length_take]; omega, fun z hz' => ?_, .inr ⟨x, rfl, fun k hk => ?_⟩⟩
    · have := bounds_u8 (hwz z (List.mem_of_mem_take hz'))
      omega
    · have hc := hcell k (by omega)
      obtain ⟨b, off, spot⟩ := x
      have hspot : spot = none := by
        have h0 := hcell 0 (by omega)
        simpa [Addr.add] using World.cell?_spot h0
      subst hspot
      refine ⟨b, off, rfl, ?_⟩
      rw [← add_plain, hc, List.getD_eq_getElem?_getD, List.getD_eq_getElem?_getD, List.getElem?_take, if_pos hk]

end Go.Proofs.Qxb6609416aDoor
