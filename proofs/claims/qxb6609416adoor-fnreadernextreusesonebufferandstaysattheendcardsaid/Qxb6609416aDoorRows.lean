/-
  NARROWER THAN 'FOR EVERY INPUT', by the rows' own cells (each row's printed sentence says how): FnReaderNextDealsTheEntriesInOrder: laid · FnReaderNextReusesOneBufferAndStaysAtTheEnd: laid.
  DERIVED. THE GIVEN ROWS OF THIS SEAT. 2 by the template 'for every input the law returns true; each argument reads behind the call as it read before'; 0 by the template 'total and deterministic' (their statements: Qxb6609416aDoorTotals.lean).
  GIVEN WITH THE SEED: the statements are not yours to turn. If you find one false, say at which input.
  Laid BY PROGRAM, IN A SANDBOX (cutbox-rows.mjs): the forced cells as the released guide's own fill.sh prints them over the translation e11fa906754071f6… (all of the seat's roots in one cut). By AI agents, Wed Nov 11 2026. No macro, syntax, notation, axiom, sorry.
-/
import Derived.Test.Qxb6609416aDoorChecked
import GoSem.Claim
import GoSem.ClaimJoined
import GoSem.ClaimMapViews
import Derived.JoinedTies
import Derived.KernelRfl
namespace Go.Proofs.Qxb6609416aDoor
/- THE CELL 'sum', in the pinned program and in every row, IS THE sha256 OF THE DUMP (.gsa) THAT Qxb6609416aDoorProg.lean LOADS. Nothing in Lean hashes anything: it is a label: what it is worth is what the hold of that sum in a sandbox is worth. -/
noncomputable def Tryd.pinned : Pinned := { name := "qxb6609416adoor", sum := "e11fa906754071f63df15f0a32b8ea4bab992a4d36181c09413a6965bf00638a", checked := Tryd.checked }
namespace Rows
def none {H : Type} : Left H := { results := [], args := [] }

/- WHAT THE LISTED PACKAGE-LEVEL VARIABLES READ AS WHEN THE CALL BEGINS. Each datum BY PROGRAM (the guide's laid-datum.mjs) off the statement by which the dump's own 'gosem.cut.vars' lays the variable. In a bare row this is a premise. The card (Qxb6609416aDoorCards.lean) ties it to the program's text. -/
def laid_io_ErrShortBuffer {H : Type} : DataW H := .iface "*errors.errorString" (.ptr (.agg [.lit (.string [115, 104, 111, 114, 116, 32, 98, 117, 102, 102, 101, 114])]))
def laid_io_EOF {H : Type} : DataW H := .iface "*errors.errorString" (.ptr (.agg [.lit (.string [69, 79, 70])]))
def laid_io_ErrUnexpectedEOF {H : Type} : DataW H := .iface "*errors.errorString" (.ptr (.agg [.lit (.string [117, 110, 101, 120, 112, 101, 99, 116, 101, 100, 32, 69, 79, 70])]))

/-- 'zzlaws_internal_spill_b1.FnReaderNextDealsTheEntriesInOrder': WHATEVER THE INPUT: true; the input reads as it did. -/
def fnReaderNextDealsTheEntriesInOrderSpec : ChangeSpec := { name := "fnReaderNextDealsTheEntriesInOrder", fn := fun _ => fun
  | [d1, d2, d3, d4, d5] => { results := [.lit (.bool true)], args := [d1, d2, d3, d4, d5] }
  | _ => none }
def fnReaderNextDealsTheEntriesInOrderRow : OpenClaim := { program := "qxb6609416adoor", sum := "e11fa906754071f63df15f0a32b8ea4bab992a4d36181c09413a6965bf00638a", func := "example.com/vigilant-mover/vigilant-mover/zzlaws_internal_spill_b1.FnReaderNextDealsTheEntriesInOrder", spec := "fnReaderNextDealsTheEntriesInOrder", unfollowed := true, recurses := true, named := ["io.ErrShortBuffer", "io.EOF", "io.ErrUnexpectedEOF"], apart := false, laid := [("io.ErrShortBuffer", laid_io_ErrShortBuffer), ("io.EOF", laid_io_EOF), ("io.ErrUnexpectedEOF", laid_io_ErrUnexpectedEOF)] }
def FnReaderNextDealsTheEntriesInOrderSaid : Prop := fnReaderNextDealsTheEntriesInOrderRow.holds Tryd.pinned (OpenSpec.ofChange fnReaderNextDealsTheEntriesInOrderSpec)

/-- ITS FALSE NEIGHBOUR: 'it returns false'. Refute it at one input. -/
def fnReaderNextDealsTheEntriesInOrderWrong : ChangeSpec := { name := "fnReaderNextDealsTheEntriesInOrder", fn := fun _ => fun
  | [d1, d2, d3, d4, d5] => { results := [.lit (.bool false)], args := [d1, d2, d3, d4, d5] }
  | _ => none }
def FnReaderNextDealsTheEntriesInOrderWrongFalsely : Prop := fnReaderNextDealsTheEntriesInOrderRow.holds Tryd.pinned (OpenSpec.ofChange fnReaderNextDealsTheEntriesInOrderWrong)

/-- 'zzlaws_internal_spill_b1.FnReaderNextReusesOneBufferAndStaysAtTheEnd': WHATEVER THE INPUT: true; the input reads as it did. -/
def fnReaderNextReusesOneBufferAndStaysAtTheEndSpec : ChangeSpec := { name := "fnReaderNextReusesOneBufferAndStaysAtTheEnd", fn := fun _ => fun
  | [d1, d2, d3, d4, d5] => { results := [.lit (.bool true)], args := [d1, d2, d3, d4, d5] }
  | _ => none }
def fnReaderNextReusesOneBufferAndStaysAtTheEndRow : OpenClaim := { program := "qxb6609416adoor", sum := "e11fa906754071f63df15f0a32b8ea4bab992a4d36181c09413a6965bf00638a", func := "example.com/vigilant-mover/vigilant-mover/zzlaws_internal_spill_b1.FnReaderNextReusesOneBufferAndStaysAtTheEnd", spec := "fnReaderNextReusesOneBufferAndStaysAtTheEnd", unfollowed := true, recurses := true, named := ["io.ErrShortBuffer", "io.EOF", "io.ErrUnexpectedEOF"], apart := false, laid := [("io.ErrShortBuffer", laid_io_ErrShortBuffer), ("io.EOF", laid_io_EOF), ("io.ErrUnexpectedEOF", laid_io_ErrUnexpectedEOF)] }
def FnReaderNextReusesOneBufferAndStaysAtTheEndSaid : Prop := fnReaderNextReusesOneBufferAndStaysAtTheEndRow.holds Tryd.pinned (OpenSpec.ofChange fnReaderNextReusesOneBufferAndStaysAtTheEndSpec)

/-- ITS FALSE NEIGHBOUR: 'it returns false'. Refute it at one input. -/
def fnReaderNextReusesOneBufferAndStaysAtTheEndWrong : ChangeSpec := { name := "fnReaderNextReusesOneBufferAndStaysAtTheEnd", fn := fun _ => fun
  | [d1, d2, d3, d4, d5] => { results := [.lit (.bool false)], args := [d1, d2, d3, d4, d5] }
  | _ => none }
def FnReaderNextReusesOneBufferAndStaysAtTheEndWrongFalsely : Prop := fnReaderNextReusesOneBufferAndStaysAtTheEndRow.holds Tryd.pinned (OpenSpec.ofChange fnReaderNextReusesOneBufferAndStaysAtTheEndWrong)

end Rows
end Go.Proofs.Qxb6609416aDoor
