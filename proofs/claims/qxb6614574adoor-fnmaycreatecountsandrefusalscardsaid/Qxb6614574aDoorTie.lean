/-
  DERIVED. GIVEN WITH THE SEED: THE PROGRAM's TIES (one call each: nine closed facts by the kernel) AND EACH ROW's TIE, after the 31st guide's Derived/Test/Toyas{Tie, Card}.lean. No idea stands in it: it is a product of the set-up. Laid BY PROGRAM, IN A SANDBOX (cutbox-door.mjs). By AI agents, Wed Nov 11 2026. No macro, syntax, notation, axiom, sorry.
-/
import Derived.Test.Qxb6614574aDoorRows
import Derived.LaidByTextLater
import Derived.SevenTiedAt
import Derived.LaidSub
import Derived.LaidOnce
namespace Go.Proofs.Qxb6614574aDoor
open Go
set_option maxRecDepth 100000
theorem seatTie1 : Tryd.prog.laidByTextLater [("example.com/hoviyat/hoviyat/pkg/user.creatable", Rows.laid_example_com_hoviyat_hoviyat_pkg_user_creatable)] [.mappedDeep] true :=
  Program.laidByTextLater_by_one 26 8 4 (by kernel_rfl) (by kernel_rfl) (by kernel_rfl) (by kernel_rfl) (by kernel_rfl) (by kernel_rfl) (fun _ _ => by kernel_rfl)
theorem noOwnUnsafe : Tryd.pinned.checked.prog.headLifts.contains "ownunsafe" = false := by kernel_rfl
theorem tie : Tryd.prog.laidByTextLater [("example.com/hoviyat/hoviyat/pkg/user.creatable", Rows.laid_example_com_hoviyat_hoviyat_pkg_user_creatable)] [.mappedDeep] true :=
  Program.laidByTextLater.sub seatTie1 ["example.com/hoviyat/hoviyat/pkg/user.creatable"] (by kernel_rfl) (by kernel_rfl)
theorem fnMayCreateExactlyTheLaterRoles_row_tie : Rows.fnMayCreateExactlyTheLaterRolesRow.laidByTextAt .later Tryd.pinned [.mappedDeep] true :=
  OpenClaim.laidByTextAt_later rfl rfl tie noOwnUnsafe
theorem fnMayCreateCountsAndRefusals_row_tie : Rows.fnMayCreateCountsAndRefusalsRow.laidByTextAt .later Tryd.pinned [.mappedDeep] true :=
  OpenClaim.laidByTextAt_later rfl rfl tie noOwnUnsafe
theorem fnMayReadAnyUserAboveThePlainUser_row_tie : Rows.fnMayReadAnyUserAboveThePlainUserRow.laidByTextAt .later Tryd.pinned [.mappedDeep] true :=
  OpenClaim.laidByTextAt_later rfl rfl tie noOwnUnsafe
theorem fnMayReadAnyUserAlongCreationAndOrder_row_tie : Rows.fnMayReadAnyUserAlongCreationAndOrderRow.laidByTextAt .later Tryd.pinned [.mappedDeep] true :=
  OpenClaim.laidByTextAt_later rfl rfl tie noOwnUnsafe
end Go.Proofs.Qxb6614574aDoor
