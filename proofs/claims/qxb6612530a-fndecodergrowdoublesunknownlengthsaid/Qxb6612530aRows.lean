/-
  No cell of these rows narrows 'for every input' (looked for: loops, veiled, ifaces, maps, wideKeys, modest, calm, conditions, laid).
  DERIVED. THE GIVEN ROWS OF THIS SEAT. 2 by the template 'for every input the law returns true; each argument reads behind the call as it read before'; 0 by the template 'total and deterministic' (their statements: Qxb6612530aTotals.lean).
  GIVEN WITH THE SEED: the statements are not yours to turn. If you find one false, say at which input.
  Laid BY PROGRAM, IN A SANDBOX (cutbox-rows.mjs): the forced cells as the released guide's own fill.sh prints them over the translation d694a27bbabeba16… (all of the seat's roots in one cut). By AI agents, Wed Nov 11 2026. No macro, syntax, notation, axiom, sorry.
-/
import Derived.Test.Qxb6612530aChecked
import GoSem.Claim
import GoSem.ClaimJoined
import GoSem.ClaimMapViews
import Derived.JoinedTies
import Derived.KernelRfl
namespace Go.Proofs.Qxb6612530a
/- THE CELL 'sum', in the pinned program and in every row, IS THE sha256 OF THE DUMP (.gsa) THAT Qxb6612530aProg.lean LOADS. Nothing in Lean hashes anything: it is a label: what it is worth is what the hold of that sum in a sandbox is worth. -/
noncomputable def Try.pinned : Pinned := { name := "qxb6612530a", sum := "d694a27bbabeba1663d001f82b9339931d8c3c18dfeb52f35a0d61ad8085dbab", checked := Try.checked }
namespace Rows
def none {H : Type} : Left H := { results := [], args := [] }

/-- 'zzlaws_internal_wire_b1.FnBeaconMarshalTextOrderRoundTrip': WHATEVER THE INPUT: true; the input reads as it did. -/
def fnBeaconMarshalTextOrderRoundTripSpec : ChangeSpec := { name := "fnBeaconMarshalTextOrderRoundTrip", fn := fun _ => fun
  | [d1, d2] => { results := [.lit (.bool true)], args := [d1, d2] }
  | _ => none }
def fnBeaconMarshalTextOrderRoundTripRow : OpenClaim := { program := "qxb6612530a", sum := "d694a27bbabeba1663d001f82b9339931d8c3c18dfeb52f35a0d61ad8085dbab", func := "example.com/stakeweave/stakeweave/zzlaws_internal_wire_b1.FnBeaconMarshalTextOrderRoundTrip", spec := "fnBeaconMarshalTextOrderRoundTrip", apart := false }
def FnBeaconMarshalTextOrderRoundTripSaid : Prop := fnBeaconMarshalTextOrderRoundTripRow.holds Try.pinned (OpenSpec.ofChange fnBeaconMarshalTextOrderRoundTripSpec)

/-- ITS FALSE NEIGHBOUR: 'it returns false'. Refute it at one input. -/
def fnBeaconMarshalTextOrderRoundTripWrong : ChangeSpec := { name := "fnBeaconMarshalTextOrderRoundTrip", fn := fun _ => fun
  | [d1, d2] => { results := [.lit (.bool false)], args := [d1, d2] }
  | _ => none }
def FnBeaconMarshalTextOrderRoundTripWrongFalsely : Prop := fnBeaconMarshalTextOrderRoundTripRow.holds Try.pinned (OpenSpec.ofChange fnBeaconMarshalTextOrderRoundTripWrong)

/-- 'zzlaws_internal_wire_b1.FnDecoderGrowDoublesUnknownLength': WHATEVER THE INPUT: true; the input reads as it did. -/
def fnDecoderGrowDoublesUnknownLengthSpec : ChangeSpec := { name := "fnDecoderGrowDoublesUnknownLength", fn := fun _ => fun
  | [d1, d2] => { results := [.lit (.bool true)], args := [d1, d2] }
  | _ => none }
def fnDecoderGrowDoublesUnknownLengthRow : OpenClaim := { program := "qxb6612530a", sum := "d694a27bbabeba1663d001f82b9339931d8c3c18dfeb52f35a0d61ad8085dbab", func := "example.com/stakeweave/stakeweave/zzlaws_internal_wire_b1.FnDecoderGrowDoublesUnknownLength", spec := "fnDecoderGrowDoublesUnknownLength", apart := false }
def FnDecoderGrowDoublesUnknownLengthSaid : Prop := fnDecoderGrowDoublesUnknownLengthRow.holds Try.pinned (OpenSpec.ofChange fnDecoderGrowDoublesUnknownLengthSpec)

/-- ITS FALSE NEIGHBOUR: 'it returns false'. Refute it at one input. -/
def fnDecoderGrowDoublesUnknownLengthWrong : ChangeSpec := { name := "fnDecoderGrowDoublesUnknownLength", fn := fun _ => fun
  | [d1, d2] => { results := [.lit (.bool false)], args := [d1, d2] }
  | _ => none }
def FnDecoderGrowDoublesUnknownLengthWrongFalsely : Prop := fnDecoderGrowDoublesUnknownLengthRow.holds Try.pinned (OpenSpec.ofChange fnDecoderGrowDoublesUnknownLengthWrong)

end Rows
end Go.Proofs.Qxb6612530a
