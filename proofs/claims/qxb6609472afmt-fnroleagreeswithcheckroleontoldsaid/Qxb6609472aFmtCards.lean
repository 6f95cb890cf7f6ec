/-
  DERIVED. GIVEN WITH THE SEED: THE CARDS: each row of Qxb6609472aFmtRows.lean that lists a variable, with what it lists TIED to the program's text (the seventh form; the later family's looks); each row that meets fmt, with fmt's text TOLD by the authors' own Lean function (tested against real Go, not proved from fmt's source: count such statements apart). THE CARD IS WHAT COUNTS. Prove the row's statement (the work); the ties are given (Qxb6609472aFmtTie.lean); close each card by the builder's one call (the guide's Derived/Test/ToyasCard.lean, 'card_holds'). Laid BY PROGRAM, IN A SANDBOX (cutbox-door.mjs). By AI agents, Wed Nov 11 2026. No macro, syntax, notation, axiom, sorry.
-/
import Derived.Test.Qxb6609472aFmtRows
import GoSem.ClaimSeven
namespace Go.Proofs.Qxb6609472aFmt
namespace Rows

/-- THE TOLD AND TIED CARD OF 'zzlaws_internal_world_b1.FnGrantWidensGroupHoldsRoleOnExactly'. -/
def fnGrantWidensGroupHoldsRoleOnExactlyCard : Claim7 := { stood := { row := fnGrantWidensGroupHoldsRoleOnExactlyRow, standIns := [], harness := (true, "10f3011963d43433f8e9f5520ee76e59d5a74ecd98a1e31cc828e98cfcb98c44"), looks := false }, told := true, laidByText := true, laidKinds := [.called], laidTests := true, laidLooks := .later, goes := false }
def FnGrantWidensGroupHoldsRoleOnExactlyToldSaid : Prop := Claim7.holds Tryf.pinned (.plain (OpenSpec.ofChange fnGrantWidensGroupHoldsRoleOnExactlySpec)) fnGrantWidensGroupHoldsRoleOnExactlyCard
/-- ITS FALSE NEIGHBOUR. Refute it at one input. -/
def FnGrantWidensGroupHoldsRoleOnExactlyToldWrongFalsely : Prop := Claim7.holds Tryf.pinned (.plain (OpenSpec.ofChange fnGrantWidensGroupHoldsRoleOnExactlyWrong)) fnGrantWidensGroupHoldsRoleOnExactlyCard

/-- THE TOLD AND TIED CARD OF 'zzlaws_internal_world_b1.FnRoleAgreesWithCheckRoleOn'. -/
def fnRoleAgreesWithCheckRoleOnCard : Claim7 := { stood := { row := fnRoleAgreesWithCheckRoleOnRow, standIns := [], harness := (true, "10f3011963d43433f8e9f5520ee76e59d5a74ecd98a1e31cc828e98cfcb98c44"), looks := false }, told := true, laidByText := true, laidKinds := [.called], laidTests := true, laidLooks := .later, goes := false }
def FnRoleAgreesWithCheckRoleOnToldSaid : Prop := Claim7.holds Tryf.pinned (.plain (OpenSpec.ofChange fnRoleAgreesWithCheckRoleOnSpec)) fnRoleAgreesWithCheckRoleOnCard
/-- ITS FALSE NEIGHBOUR. Refute it at one input. -/
def FnRoleAgreesWithCheckRoleOnToldWrongFalsely : Prop := Claim7.holds Tryf.pinned (.plain (OpenSpec.ofChange fnRoleAgreesWithCheckRoleOnWrong)) fnRoleAgreesWithCheckRoleOnCard

/-- THE TOLD AND TIED CARD OF 'zzlaws_internal_world_b1.FnRightsGrowByExactlyWhatGrantAccepts'. -/
def fnRightsGrowByExactlyWhatGrantAcceptsCard : Claim7 := { stood := { row := fnRightsGrowByExactlyWhatGrantAcceptsRow, standIns := [], harness := (true, "10f3011963d43433f8e9f5520ee76e59d5a74ecd98a1e31cc828e98cfcb98c44"), looks := false }, told := true, laidByText := true, laidKinds := [.called], laidTests := true, laidLooks := .later, goes := false }
def FnRightsGrowByExactlyWhatGrantAcceptsToldSaid : Prop := Claim7.holds Tryf.pinned (.plain (OpenSpec.ofChange fnRightsGrowByExactlyWhatGrantAcceptsSpec)) fnRightsGrowByExactlyWhatGrantAcceptsCard
/-- ITS FALSE NEIGHBOUR. Refute it at one input. -/
def FnRightsGrowByExactlyWhatGrantAcceptsToldWrongFalsely : Prop := Claim7.holds Tryf.pinned (.plain (OpenSpec.ofChange fnRightsGrowByExactlyWhatGrantAcceptsWrong)) fnRightsGrowByExactlyWhatGrantAcceptsCard
end Rows
end Go.Proofs.Qxb6609472aFmt
