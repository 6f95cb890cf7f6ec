/-
  NARROWER THAN 'FOR EVERY INPUT', by the rows' own cells (each row's printed sentence says how): FnGrantWidensGroupHoldsRoleOnExactly: ifaces, laid · FnRoleAgreesWithCheckRoleOn: ifaces, laid · FnRightsGrowByExactlyWhatGrantAccepts: ifaces, laid.
  DERIVED. THE GIVEN ROWS OF THIS SEAT. 3 by the template 'for every input the law returns true; each argument reads behind the call as it read before'; 0 by the template 'total and deterministic' (their statements: Qxb6609472aFmtTotals.lean).
  GIVEN WITH THE SEED: the statements are not yours to turn. If you find one false, say at which input.
  Laid BY PROGRAM, IN A SANDBOX (cutbox-rows.mjs): the forced cells as the released guide's own fill.sh prints them over the translation 3c7ebaa69464d8cc… (all of the seat's roots in one cut). By AI agents, Wed Nov 11 2026. No macro, syntax, notation, axiom, sorry.
-/
import Derived.Test.Qxb6609472aFmtChecked
import GoSem.Claim
import GoSem.ClaimJoined
import GoSem.ClaimMapViews
import Derived.JoinedTies
import Derived.KernelRfl
namespace Go.Proofs.Qxb6609472aFmt
/- THE CELL 'sum', in the pinned program and in every row, IS THE sha256 OF THE DUMP (.gsa) THAT Qxb6609472aFmtProg.lean LOADS. Nothing in Lean hashes anything: it is a label: what it is worth is what the hold of that sum in a sandbox is worth. -/
noncomputable def Tryf.pinned : Pinned := { name := "qxb6609472afmt", sum := "3c7ebaa69464d8cc379cadcdc97197af701d1a6b7325524e31782b2f39eec474", checked := Tryf.checked }
namespace Rows
def none {H : Type} : Left H := { results := [], args := [] }

/- WHAT THE LISTED PACKAGE-LEVEL VARIABLES READ AS WHEN THE CALL BEGINS. Each datum BY PROGRAM (the guide's laid-datum.mjs) off the statement by which the dump's own 'gosem.cut.vars' lays the variable. In a bare row this is a premise. The card (Qxb6609472aFmtCards.lean) ties it to the program's text. -/
def laid_example_com_ramure_ramure_internal_world_ErrNotExist {H : Type} : DataW H := .iface "*errors.errorString" (.ptr (.agg [.lit (.string [100, 111, 101, 115, 32, 110, 111, 116, 32, 101, 120, 105, 115, 116])]))

/-- 'zzlaws_internal_world_b1.FnGrantWidensGroupHoldsRoleOnExactly': WHATEVER THE INPUT: true; the input reads as it did. -/
def fnGrantWidensGroupHoldsRoleOnExactlySpec : ChangeSpec := { name := "fnGrantWidensGroupHoldsRoleOnExactly", vars := ["example.com/ramure/ramure/internal/world.ErrNotExist"], fn := fun _ => fun
  | [d1, d2, d3, d4, d5, d6, d7, d8, d9, g1] => { results := [.lit (.bool true)], args := [d1, d2, d3, d4, d5, d6, d7, d8, d9], vars := [g1] }
  | _ => none }
def fnGrantWidensGroupHoldsRoleOnExactlyRow : OpenClaim := { program := "qxb6609472afmt", sum := "3c7ebaa69464d8cc379cadcdc97197af701d1a6b7325524e31782b2f39eec474", func := "example.com/ramure/ramure/zzlaws_internal_world_b1.FnGrantWidensGroupHoldsRoleOnExactly", spec := "fnGrantWidensGroupHoldsRoleOnExactly", stops := ["fmt.errorf, its operands' methods called", "fmt.Sprintf, its operands' methods called"], inPlace := ["fmt.errorf"], unfollowed := true, recurses := true, named := ["example.com/ramure/ramure/internal/world.ErrNotExist"], ifaces := true, plainKeys := false, apart := false, laid := [("example.com/ramure/ramure/internal/world.ErrNotExist", laid_example_com_ramure_ramure_internal_world_ErrNotExist)] }
/-- NO THEOREM (fmt's text is open here; it may be false): for the released tool's asking of the row's closed facts alone. THE STATEMENT IS 'FnGrantWidensGroupHoldsRoleOnExactlyToldSaid' (Qxb6609472aFmtCards.lean). -/
def FnGrantWidensGroupHoldsRoleOnExactlyFormAsk : Prop := fnGrantWidensGroupHoldsRoleOnExactlyRow.holds Tryf.pinned (OpenSpec.ofChange fnGrantWidensGroupHoldsRoleOnExactlySpec)

/-- ITS FALSE NEIGHBOUR: 'it returns false'. Refute it at one input. -/
def fnGrantWidensGroupHoldsRoleOnExactlyWrong : ChangeSpec := { name := "fnGrantWidensGroupHoldsRoleOnExactly", vars := ["example.com/ramure/ramure/internal/world.ErrNotExist"], fn := fun _ => fun
  | [d1, d2, d3, d4, d5, d6, d7, d8, d9, g1] => { results := [.lit (.bool false)], args := [d1, d2, d3, d4, d5, d6, d7, d8, d9], vars := [g1] }
  | _ => none }
def FnGrantWidensGroupHoldsRoleOnExactlyWrongFormAsk : Prop := fnGrantWidensGroupHoldsRoleOnExactlyRow.holds Tryf.pinned (OpenSpec.ofChange fnGrantWidensGroupHoldsRoleOnExactlyWrong)

/-- 'zzlaws_internal_world_b1.FnRoleAgreesWithCheckRoleOn': WHATEVER THE INPUT: true; the input reads as it did. -/
def fnRoleAgreesWithCheckRoleOnSpec : ChangeSpec := { name := "fnRoleAgreesWithCheckRoleOn", vars := ["example.com/ramure/ramure/internal/world.ErrNotExist"], fn := fun _ => fun
  | [d1, d2, g1] => { results := [.lit (.bool true)], args := [d1, d2], vars := [g1] }
  | _ => none }
def fnRoleAgreesWithCheckRoleOnRow : OpenClaim := { program := "qxb6609472afmt", sum := "3c7ebaa69464d8cc379cadcdc97197af701d1a6b7325524e31782b2f39eec474", func := "example.com/ramure/ramure/zzlaws_internal_world_b1.FnRoleAgreesWithCheckRoleOn", spec := "fnRoleAgreesWithCheckRoleOn", stops := ["fmt.errorf, its operands' methods called", "fmt.Sprintf, its operands' methods called"], inPlace := ["fmt.errorf"], unfollowed := true, recurses := true, named := ["example.com/ramure/ramure/internal/world.ErrNotExist"], ifaces := true, plainKeys := false, apart := false, laid := [("example.com/ramure/ramure/internal/world.ErrNotExist", laid_example_com_ramure_ramure_internal_world_ErrNotExist)] }
/-- NO THEOREM (fmt's text is open here; it may be false): for the released tool's asking of the row's closed facts alone. THE STATEMENT IS 'FnRoleAgreesWithCheckRoleOnToldSaid' (Qxb6609472aFmtCards.lean). -/
def FnRoleAgreesWithCheckRoleOnFormAsk : Prop := fnRoleAgreesWithCheckRoleOnRow.holds Tryf.pinned (OpenSpec.ofChange fnRoleAgreesWithCheckRoleOnSpec)

/-- ITS FALSE NEIGHBOUR: 'it returns false'. Refute it at one input. -/
def fnRoleAgreesWithCheckRoleOnWrong : ChangeSpec := { name := "fnRoleAgreesWithCheckRoleOn", vars := ["example.com/ramure/ramure/internal/world.ErrNotExist"], fn := fun _ => fun
  | [d1, d2, g1] => { results := [.lit (.bool false)], args := [d1, d2], vars := [g1] }
  | _ => none }
def FnRoleAgreesWithCheckRoleOnWrongFormAsk : Prop := fnRoleAgreesWithCheckRoleOnRow.holds Tryf.pinned (OpenSpec.ofChange fnRoleAgreesWithCheckRoleOnWrong)

/-- 'zzlaws_internal_world_b1.FnRightsGrowByExactlyWhatGrantAccepts': WHATEVER THE INPUT: true; the input reads as it did. -/
def fnRightsGrowByExactlyWhatGrantAcceptsSpec : ChangeSpec := { name := "fnRightsGrowByExactlyWhatGrantAccepts", vars := ["example.com/ramure/ramure/internal/world.ErrNotExist"], fn := fun _ => fun
  | [d1, d2, d3, d4, d5, d6, d7, d8, d9, g1] => { results := [.lit (.bool true)], args := [d1, d2, d3, d4, d5, d6, d7, d8, d9], vars := [g1] }
  | _ => none }
def fnRightsGrowByExactlyWhatGrantAcceptsRow : OpenClaim := { program := "qxb6609472afmt", sum := "3c7ebaa69464d8cc379cadcdc97197af701d1a6b7325524e31782b2f39eec474", func := "example.com/ramure/ramure/zzlaws_internal_world_b1.FnRightsGrowByExactlyWhatGrantAccepts", spec := "fnRightsGrowByExactlyWhatGrantAccepts", stops := ["fmt.errorf, its operands' methods called", "fmt.Sprintf, its operands' methods called"], inPlace := ["fmt.errorf"], unfollowed := true, recurses := true, named := ["example.com/ramure/ramure/internal/world.ErrNotExist"], ifaces := true, plainKeys := false, apart := false, laid := [("example.com/ramure/ramure/internal/world.ErrNotExist", laid_example_com_ramure_ramure_internal_world_ErrNotExist)] }
/-- NO THEOREM (fmt's text is open here; it may be false): for the released tool's asking of the row's closed facts alone. THE STATEMENT IS 'FnRightsGrowByExactlyWhatGrantAcceptsToldSaid' (Qxb6609472aFmtCards.lean). -/
def FnRightsGrowByExactlyWhatGrantAcceptsFormAsk : Prop := fnRightsGrowByExactlyWhatGrantAcceptsRow.holds Tryf.pinned (OpenSpec.ofChange fnRightsGrowByExactlyWhatGrantAcceptsSpec)

/-- ITS FALSE NEIGHBOUR: 'it returns false'. Refute it at one input. -/
def fnRightsGrowByExactlyWhatGrantAcceptsWrong : ChangeSpec := { name := "fnRightsGrowByExactlyWhatGrantAccepts", vars := ["example.com/ramure/ramure/internal/world.ErrNotExist"], fn := fun _ => fun
  | [d1, d2, d3, d4, d5, d6, d7, d8, d9, g1] => { results := [.lit (.bool false)], args := [d1, d2, d3, d4, d5, d6, d7, d8, d9], vars := [g1] }
  | _ => none }
def FnRightsGrowByExactlyWhatGrantAcceptsWrongFormAsk : Prop := fnRightsGrowByExactlyWhatGrantAcceptsRow.holds Tryf.pinned (OpenSpec.ofChange fnRightsGrowByExactlyWhatGrantAcceptsWrong)

end Rows
end Go.Proofs.Qxb6609472aFmt
