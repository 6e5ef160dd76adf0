/-
  NARROWER THAN 'FOR EVERY INPUT', by the rows' own cells (each row's printed sentence says how): FnMayCreateExactlyTheLaterRoles: maps, laid · FnMayCreateCountsAndRefusals: maps, laid · FnMayReadAnyUserAboveThePlainUser: maps, laid · FnMayReadAnyUserAlongCreationAndOrder: maps, laid.
  DERIVED. THE GIVEN ROWS OF THIS SEAT. 4 by the template 'for every input the law returns true; each argument reads behind the call as it read before'; 0 by the template 'total and deterministic' (their statements: Qxb6614574aDoorTotals.lean).
  GIVEN WITH THE SEED: the statements are not yours to turn. If you find one false, say at which input.
  Laid BY PROGRAM, IN A SANDBOX (cutbox-rows.mjs): the forced cells as the released guide's own fill.sh prints them over the translation cdc0b8ed41f0daa1… (all of the seat's roots in one cut). By AI agents, Wed Nov 11 2026. No macro, syntax, notation, axiom, sorry.
-/
import Derived.Test.Qxb6614574aDoorChecked
import GoSem.Claim
import GoSem.ClaimJoined
import GoSem.ClaimMapViews
import Derived.JoinedTies
import Derived.KernelRfl
namespace Go.Proofs.Qxb6614574aDoor
/- THE CELL 'sum', in the pinned program and in every row, IS THE sha256 OF THE DUMP (.gsa) THAT Qxb6614574aDoorProg.lean LOADS. Nothing in Lean hashes anything: it is a label: what it is worth is what the hold of that sum in a sandbox is worth. -/
noncomputable def Tryd.pinned : Pinned := { name := "qxb6614574adoor", sum := "cdc0b8ed41f0daa17db950f247bd7d2bc9a827e0fd1458d5614d8feb7f3c6ff4", checked := Tryd.checked }
namespace Rows
def none {H : Type} : Left H := { results := [], args := [] }

/- WHAT THE LISTED PACKAGE-LEVEL VARIABLES READ AS WHEN THE CALL BEGINS. Each datum BY PROGRAM (the guide's laid-datum.mjs) off the statement by which the dump's own 'gosem.cut.vars' lays the variable. In a bare row this is a premise. The card (Qxb6614574aDoorCards.lean) ties it to the program's text. -/
def laid_example_com_hoviyat_hoviyat_pkg_user_creatable {H : Type} : DataW H := .map [(.string [97, 100, 109, 105, 110], .slice [.lit (.string [115, 117, 112, 112, 111, 114, 116]), .lit (.string [117, 115, 101, 114])] []), (.string [115, 117, 112, 101, 114, 95, 97, 100, 109, 105, 110], .slice [.lit (.string [97, 100, 109, 105, 110]), .lit (.string [115, 117, 112, 112, 111, 114, 116]), .lit (.string [117, 115, 101, 114])] [])]

/-- 'zzlaws_pkg_user_b1.FnMayCreateExactlyTheLaterRoles': WHATEVER THE INPUT: true; the input reads as it did. -/
def fnMayCreateExactlyTheLaterRolesSpec : ChangeSpec := { name := "fnMayCreateExactlyTheLaterRoles", vars := ["example.com/hoviyat/hoviyat/pkg/user.creatable"], fn := fun _ => fun
  | [d1, d2, d3, g1] => { results := [.lit (.bool true)], args := [d1, d2, d3], vars := [g1] }
  | _ => none }
def fnMayCreateExactlyTheLaterRolesRow : OpenClaim := { program := "qxb6614574adoor", sum := "cdc0b8ed41f0daa17db950f247bd7d2bc9a827e0fd1458d5614d8feb7f3c6ff4", func := "example.com/hoviyat/hoviyat/zzlaws_pkg_user_b1.FnMayCreateExactlyTheLaterRoles", spec := "fnMayCreateExactlyTheLaterRoles", named := ["example.com/hoviyat/hoviyat/pkg/user.creatable"], maps := true, apart := false, laid := [("example.com/hoviyat/hoviyat/pkg/user.creatable", laid_example_com_hoviyat_hoviyat_pkg_user_creatable)] }
def FnMayCreateExactlyTheLaterRolesSaid : Prop := fnMayCreateExactlyTheLaterRolesRow.holds Tryd.pinned (OpenSpec.ofChange fnMayCreateExactlyTheLaterRolesSpec)

/-- ITS FALSE NEIGHBOUR: 'it returns false'. Refute it at one input. -/
def fnMayCreateExactlyTheLaterRolesWrong : ChangeSpec := { name := "fnMayCreateExactlyTheLaterRoles", vars := ["example.com/hoviyat/hoviyat/pkg/user.creatable"], fn := fun _ => fun
  | [d1, d2, d3, g1] => { results := [.lit (.bool false)], args := [d1, d2, d3], vars := [g1] }
  | _ => none }
def FnMayCreateExactlyTheLaterRolesWrongFalsely : Prop := fnMayCreateExactlyTheLaterRolesRow.holds Tryd.pinned (OpenSpec.ofChange fnMayCreateExactlyTheLaterRolesWrong)

/-- 'zzlaws_pkg_user_b1.FnMayCreateCountsAndRefusals': WHATEVER THE INPUT: true; the input reads as it did. -/
def fnMayCreateCountsAndRefusalsSpec : ChangeSpec := { name := "fnMayCreateCountsAndRefusals", vars := ["example.com/hoviyat/hoviyat/pkg/user.creatable"], fn := fun _ => fun
  | [d1, d2, g1] => { results := [.lit (.bool true)], args := [d1, d2], vars := [g1] }
  | _ => none }
def fnMayCreateCountsAndRefusalsRow : OpenClaim := { program := "qxb6614574adoor", sum := "cdc0b8ed41f0daa17db950f247bd7d2bc9a827e0fd1458d5614d8feb7f3c6ff4", func := "example.com/hoviyat/hoviyat/zzlaws_pkg_user_b1.FnMayCreateCountsAndRefusals", spec := "fnMayCreateCountsAndRefusals", named := ["example.com/hoviyat/hoviyat/pkg/user.creatable"], maps := true, apart := false, laid := [("example.com/hoviyat/hoviyat/pkg/user.creatable", laid_example_com_hoviyat_hoviyat_pkg_user_creatable)] }
def FnMayCreateCountsAndRefusalsSaid : Prop := fnMayCreateCountsAndRefusalsRow.holds Tryd.pinned (OpenSpec.ofChange fnMayCreateCountsAndRefusalsSpec)

/-- ITS FALSE NEIGHBOUR: 'it returns false'. Refute it at one input. -/
def fnMayCreateCountsAndRefusalsWrong : ChangeSpec := { name := "fnMayCreateCountsAndRefusals", vars := ["example.com/hoviyat/hoviyat/pkg/user.creatable"], fn := fun _ => fun
  | [d1, d2, g1] => { results := [.lit (.bool false)], args := [d1, d2], vars := [g1] }
  | _ => none }
def FnMayCreateCountsAndRefusalsWrongFalsely : Prop := fnMayCreateCountsAndRefusalsRow.holds Tryd.pinned (OpenSpec.ofChange fnMayCreateCountsAndRefusalsWrong)

/-- 'zzlaws_pkg_user_b1.FnMayReadAnyUserAboveThePlainUser': WHATEVER THE INPUT: true; the input reads as it did. -/
def fnMayReadAnyUserAboveThePlainUserSpec : ChangeSpec := { name := "fnMayReadAnyUserAboveThePlainUser", vars := ["example.com/hoviyat/hoviyat/pkg/user.creatable"], fn := fun _ => fun
  | [d, g1] => { results := [.lit (.bool true)], args := [d], vars := [g1] }
  | _ => none }
def fnMayReadAnyUserAboveThePlainUserRow : OpenClaim := { program := "qxb6614574adoor", sum := "cdc0b8ed41f0daa17db950f247bd7d2bc9a827e0fd1458d5614d8feb7f3c6ff4", func := "example.com/hoviyat/hoviyat/zzlaws_pkg_user_b1.FnMayReadAnyUserAboveThePlainUser", spec := "fnMayReadAnyUserAboveThePlainUser", named := ["example.com/hoviyat/hoviyat/pkg/user.creatable"], maps := true, apart := false, laid := [("example.com/hoviyat/hoviyat/pkg/user.creatable", laid_example_com_hoviyat_hoviyat_pkg_user_creatable)] }
def FnMayReadAnyUserAboveThePlainUserSaid : Prop := fnMayReadAnyUserAboveThePlainUserRow.holds Tryd.pinned (OpenSpec.ofChange fnMayReadAnyUserAboveThePlainUserSpec)

/-- ITS FALSE NEIGHBOUR: 'it returns false'. Refute it at one input. -/
def fnMayReadAnyUserAboveThePlainUserWrong : ChangeSpec := { name := "fnMayReadAnyUserAboveThePlainUser", vars := ["example.com/hoviyat/hoviyat/pkg/user.creatable"], fn := fun _ => fun
  | [d, g1] => { results := [.lit (.bool false)], args := [d], vars := [g1] }
  | _ => none }
def FnMayReadAnyUserAboveThePlainUserWrongFalsely : Prop := fnMayReadAnyUserAboveThePlainUserRow.holds Tryd.pinned (OpenSpec.ofChange fnMayReadAnyUserAboveThePlainUserWrong)

/-- 'zzlaws_pkg_user_b1.FnMayReadAnyUserAlongCreationAndOrder': WHATEVER THE INPUT: true; the input reads as it did. -/
def fnMayReadAnyUserAlongCreationAndOrderSpec : ChangeSpec := { name := "fnMayReadAnyUserAlongCreationAndOrder", vars := ["example.com/hoviyat/hoviyat/pkg/user.creatable"], fn := fun _ => fun
  | [d1, d2, g1] => { results := [.lit (.bool true)], args := [d1, d2], vars := [g1] }
  | _ => none }
def fnMayReadAnyUserAlongCreationAndOrderRow : OpenClaim := { program := "qxb6614574adoor", sum := "cdc0b8ed41f0daa17db950f247bd7d2bc9a827e0fd1458d5614d8feb7f3c6ff4", func := "example.com/hoviyat/hoviyat/zzlaws_pkg_user_b1.FnMayReadAnyUserAlongCreationAndOrder", spec := "fnMayReadAnyUserAlongCreationAndOrder", named := ["example.com/hoviyat/hoviyat/pkg/user.creatable"], maps := true, apart := false, laid := [("example.com/hoviyat/hoviyat/pkg/user.creatable", laid_example_com_hoviyat_hoviyat_pkg_user_creatable)] }
def FnMayReadAnyUserAlongCreationAndOrderSaid : Prop := fnMayReadAnyUserAlongCreationAndOrderRow.holds Tryd.pinned (OpenSpec.ofChange fnMayReadAnyUserAlongCreationAndOrderSpec)

/-- ITS FALSE NEIGHBOUR: 'it returns false'. Refute it at one input. -/
def fnMayReadAnyUserAlongCreationAndOrderWrong : ChangeSpec := { name := "fnMayReadAnyUserAlongCreationAndOrder", vars := ["example.com/hoviyat/hoviyat/pkg/user.creatable"], fn := fun _ => fun
  | [d1, d2, g1] => { results := [.lit (.bool false)], args := [d1, d2], vars := [g1] }
  | _ => none }
def FnMayReadAnyUserAlongCreationAndOrderWrongFalsely : Prop := fnMayReadAnyUserAlongCreationAndOrderRow.holds Tryd.pinned (OpenSpec.ofChange fnMayReadAnyUserAlongCreationAndOrderWrong)

end Rows
end Go.Proofs.Qxb6614574aDoor
