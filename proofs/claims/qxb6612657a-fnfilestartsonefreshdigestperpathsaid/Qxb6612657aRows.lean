/-
  No cell of these rows narrows 'for every input' (looked for: loops, veiled, ifaces, maps, wideKeys, modest, calm, conditions, laid).
  DERIVED. THE GIVEN ROWS OF THIS SEAT. 1 by the template 'for every input the law returns true; each argument reads behind the call as it read before'; 0 by the template 'total and deterministic' (their statements: Qxb6612657aTotals.lean).
  GIVEN WITH THE SEED: the statements are not yours to turn. If you find one false, say at which input.
  Laid BY PROGRAM, IN A SANDBOX (cutbox-rows.mjs): the forced cells as the released guide's own fill.sh prints them over the translation 3dc1faacac3e5881… (all of the seat's roots in one cut). By AI agents, Wed Nov 11 2026. No macro, syntax, notation, axiom, sorry.
-/
import Derived.Test.Qxb6612657aChecked
import GoSem.Claim
import GoSem.ClaimJoined
import GoSem.ClaimMapViews
import Derived.JoinedTies
import Derived.KernelRfl
namespace Go.Proofs.Qxb6612657a
/- THE CELL 'sum', in the pinned program and in every row, IS THE sha256 OF THE DUMP (.gsa) THAT Qxb6612657aProg.lean LOADS. Nothing in Lean hashes anything: it is a label: what it is worth is what the hold of that sum in a sandbox is worth. -/
noncomputable def Try.pinned : Pinned := { name := "qxb6612657a", sum := "3dc1faacac3e5881dd663c2bf714fcbb1c3ff28bf0c3ee172f7562a015aa8cf6", checked := Try.checked }
namespace Rows
def none {H : Type} : Left H := { results := [], args := [] }

/-- 'zzlaws_pkg_evening_b1.FnFileStartsOneFreshDigestPerPath': WHATEVER THE INPUT: true; the input reads as it did. -/
def fnFileStartsOneFreshDigestPerPathSpec : ChangeSpec := { name := "fnFileStartsOneFreshDigestPerPath", fn := fun _ => fun
  | [d1, d2] => { results := [.lit (.bool true)], args := [d1, d2] }
  | _ => none }
def fnFileStartsOneFreshDigestPerPathRow : OpenClaim := { program := "qxb6612657a", sum := "3dc1faacac3e5881dd663c2bf714fcbb1c3ff28bf0c3ee172f7562a015aa8cf6", func := "example.com/tuoguan/tuoguan/zzlaws_pkg_evening_b1.FnFileStartsOneFreshDigestPerPath", spec := "fnFileStartsOneFreshDigestPerPath", apart := false }
def FnFileStartsOneFreshDigestPerPathSaid : Prop := fnFileStartsOneFreshDigestPerPathRow.holds Try.pinned (OpenSpec.ofChange fnFileStartsOneFreshDigestPerPathSpec)

/-- ITS FALSE NEIGHBOUR: 'it returns false'. Refute it at one input. -/
def fnFileStartsOneFreshDigestPerPathWrong : ChangeSpec := { name := "fnFileStartsOneFreshDigestPerPath", fn := fun _ => fun
  | [d1, d2] => { results := [.lit (.bool false)], args := [d1, d2] }
  | _ => none }
def FnFileStartsOneFreshDigestPerPathWrongFalsely : Prop := fnFileStartsOneFreshDigestPerPathRow.holds Try.pinned (OpenSpec.ofChange fnFileStartsOneFreshDigestPerPathWrong)

end Rows
end Go.Proofs.Qxb6612657a
