/-
  DERIVED. GIVEN WITH THE SEED: THE CARDS: each row of Qxb6609416aDoorRows.lean that lists a variable, with what it lists TIED to the program's text (the seventh form; the later family's looks); each row that meets fmt, with fmt's text TOLD by the authors' own Lean function (tested against real Go, not proved from fmt's source: count such statements apart). THE CARD IS WHAT COUNTS. Prove the row's statement (the work); the ties are given (Qxb6609416aDoorTie.lean); close each card by the builder's one call (the guide's Derived/Test/ToyasCard.lean, 'card_holds'). Laid BY PROGRAM, IN A SANDBOX (cutbox-door.mjs). By AI agents, Wed Nov 11 2026. No macro, syntax, notation, axiom, sorry.
-/
import Derived.Test.Qxb6609416aDoorRows
import GoSem.ClaimSeven
namespace Go.Proofs.Qxb6609416aDoor
namespace Rows

/-- THE TIED CARD OF 'zzlaws_internal_spill_b1.FnReaderNextDealsTheEntriesInOrder'. -/
def fnReaderNextDealsTheEntriesInOrderCard : Claim7 := { stood := { row := fnReaderNextDealsTheEntriesInOrderRow, standIns := [], harness := (true, "38e623de0d5d8c28f2f86d2d15dd05448f8a47b46ff5a5a9c3e8e0c3f4d513cc"), looks := true }, kinds := [], alts := [], laidByText := true, laidKinds := [.sentinel, .sentinel, .sentinel], laidTests := true, laidLooks := .later }
def FnReaderNextDealsTheEntriesInOrderCardSaid : Prop := Claim7.holds Tryd.pinned (.plain (OpenSpec.ofChange fnReaderNextDealsTheEntriesInOrderSpec)) fnReaderNextDealsTheEntriesInOrderCard

/-- THE TIED CARD OF 'zzlaws_internal_spill_b1.FnReaderNextReusesOneBufferAndStaysAtTheEnd'. -/
def fnReaderNextReusesOneBufferAndStaysAtTheEndCard : Claim7 := { stood := { row := fnReaderNextReusesOneBufferAndStaysAtTheEndRow, standIns := [], harness := (true, "38e623de0d5d8c28f2f86d2d15dd05448f8a47b46ff5a5a9c3e8e0c3f4d513cc"), looks := true }, kinds := [], alts := [], laidByText := true, laidKinds := [.sentinel, .sentinel, .sentinel], laidTests := true, laidLooks := .later }
def FnReaderNextReusesOneBufferAndStaysAtTheEndCardSaid : Prop := Claim7.holds Tryd.pinned (.plain (OpenSpec.ofChange fnReaderNextReusesOneBufferAndStaysAtTheEndSpec)) fnReaderNextReusesOneBufferAndStaysAtTheEndCard
end Rows
end Go.Proofs.Qxb6609416aDoor
