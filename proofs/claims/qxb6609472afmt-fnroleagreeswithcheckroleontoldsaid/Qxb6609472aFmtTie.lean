/-
  DERIVED. GIVEN WITH THE SEED: THE PROGRAM's TIES (one call each: nine closed facts by the kernel) AND EACH ROW's TIE, after the 31st guide's Derived/Test/Toyas{Tie, Card}.lean. No idea stands in it: it is a product of the set-up. Laid BY PROGRAM, IN A SANDBOX (cutbox-door.mjs). By AI agents, Wed Nov 11 2026. No macro, syntax, notation, axiom, sorry.
-/
import Derived.Test.Qxb6609472aFmtRows
import Derived.LaidByTextLater
import Derived.SevenTiedAt
import Derived.LaidSub
import Derived.LaidOnce
namespace Go.Proofs.Qxb6609472aFmt
open Go
set_option maxRecDepth 100000
theorem seatTie1 : Tryf.prog.laidByTextLater [("example.com/ramure/ramure/internal/world.ErrNotExist", Rows.laid_example_com_ramure_ramure_internal_world_ErrNotExist)] [.called] true :=
  Program.laidByTextLater_by_one 38 8 5 (by kernel_rfl) (by kernel_rfl) (by kernel_rfl) (by kernel_rfl) (by kernel_rfl) (by kernel_rfl) (fun _ _ => by kernel_rfl)
theorem noOwnUnsafe : Tryf.pinned.checked.prog.headLifts.contains "ownunsafe" = false := by kernel_rfl
theorem tie : Tryf.prog.laidByTextLater [("example.com/ramure/ramure/internal/world.ErrNotExist", Rows.laid_example_com_ramure_ramure_internal_world_ErrNotExist)] [.called] true :=
  Program.laidByTextLater.sub seatTie1 ["example.com/ramure/ramure/internal/world.ErrNotExist"] (by kernel_rfl) (by kernel_rfl)
theorem fnGrantWidensGroupHoldsRoleOnExactly_row_tie : Rows.fnGrantWidensGroupHoldsRoleOnExactlyRow.laidByTextAt .later Tryf.pinned [.called] true :=
  OpenClaim.laidByTextAt_later rfl rfl tie noOwnUnsafe
theorem fnRoleAgreesWithCheckRoleOn_row_tie : Rows.fnRoleAgreesWithCheckRoleOnRow.laidByTextAt .later Tryf.pinned [.called] true :=
  OpenClaim.laidByTextAt_later rfl rfl tie noOwnUnsafe
theorem fnRightsGrowByExactlyWhatGrantAccepts_row_tie : Rows.fnRightsGrowByExactlyWhatGrantAcceptsRow.laidByTextAt .later Tryf.pinned [.called] true :=
  OpenClaim.laidByTextAt_later rfl rfl tie noOwnUnsafe
end Go.Proofs.Qxb6609472aFmt
