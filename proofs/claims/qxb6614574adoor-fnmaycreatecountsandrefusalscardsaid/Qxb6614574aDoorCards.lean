/-
  DERIVED. GIVEN WITH THE SEED: THE CARDS: each row of Qxb6614574aDoorRows.lean that lists a variable, with what it lists TIED to the program's text (the seventh form; the later family's looks); each row that meets fmt, with fmt's text TOLD by the authors' own Lean function (tested against real Go, not proved from fmt's source: count such statements apart). THE CARD IS WHAT COUNTS. Prove the row's statement (the work); the ties are given (Qxb6614574aDoorTie.lean); close each card by the builder's one call (the guide's Derived/Test/ToyasCard.lean, 'card_holds'). Laid BY PROGRAM, IN A SANDBOX (cutbox-door.mjs). By AI agents, Wed Nov 11 2026. No macro, syntax, notation, axiom, sorry.
-/
import Derived.Test.Qxb6614574aDoorRows
import GoSem.ClaimSeven
namespace Go.Proofs.Qxb6614574aDoor
namespace Rows

/-- THE TIED CARD OF 'zzlaws_pkg_user_b1.FnMayCreateExactlyTheLaterRoles'. -/
def fnMayCreateExactlyTheLaterRolesCard : Claim7 := { stood := { row := fnMayCreateExactlyTheLaterRolesRow, standIns := [], harness := (true, "6457c35547b2e50b98a0a3ee8d1a1ddf8a427d6a34684738863ebcd6a9aae189"), looks := false }, kinds := [], alts := [], laidByText := true, laidKinds := [.mappedDeep], laidTests := true, laidLooks := .later }
def FnMayCreateExactlyTheLaterRolesCardSaid : Prop := Claim7.holds Tryd.pinned (.plain (OpenSpec.ofChange fnMayCreateExactlyTheLaterRolesSpec)) fnMayCreateExactlyTheLaterRolesCard

/-- THE TIED CARD OF 'zzlaws_pkg_user_b1.FnMayCreateCountsAndRefusals'. -/
def fnMayCreateCountsAndRefusalsCard : Claim7 := { stood := { row := fnMayCreateCountsAndRefusalsRow, standIns := [], harness := (true, "6457c35547b2e50b98a0a3ee8d1a1ddf8a427d6a34684738863ebcd6a9aae189"), looks := false }, kinds := [], alts := [], laidByText := true, laidKinds := [.mappedDeep], laidTests := true, laidLooks := .later }
def FnMayCreateCountsAndRefusalsCardSaid : Prop := Claim7.holds Tryd.pinned (.plain (OpenSpec.ofChange fnMayCreateCountsAndRefusalsSpec)) fnMayCreateCountsAndRefusalsCard

/-- THE TIED CARD OF 'zzlaws_pkg_user_b1.FnMayReadAnyUserAboveThePlainUser'. -/
def fnMayReadAnyUserAboveThePlainUserCard : Claim7 := { stood := { row := fnMayReadAnyUserAboveThePlainUserRow, standIns := [], harness := (true, "6457c35547b2e50b98a0a3ee8d1a1ddf8a427d6a34684738863ebcd6a9aae189"), looks := false }, kinds := [], alts := [], laidByText := true, laidKinds := [.mappedDeep], laidTests := true, laidLooks := .later }
def FnMayReadAnyUserAboveThePlainUserCardSaid : Prop := Claim7.holds Tryd.pinned (.plain (OpenSpec.ofChange fnMayReadAnyUserAboveThePlainUserSpec)) fnMayReadAnyUserAboveThePlainUserCard

/-- THE TIED CARD OF 'zzlaws_pkg_user_b1.FnMayReadAnyUserAlongCreationAndOrder'. -/
def fnMayReadAnyUserAlongCreationAndOrderCard : Claim7 := { stood := { row := fnMayReadAnyUserAlongCreationAndOrderRow, standIns := [], harness := (true, "6457c35547b2e50b98a0a3ee8d1a1ddf8a427d6a34684738863ebcd6a9aae189"), looks := false }, kinds := [], alts := [], laidByText := true, laidKinds := [.mappedDeep], laidTests := true, laidLooks := .later }
def FnMayReadAnyUserAlongCreationAndOrderCardSaid : Prop := Claim7.holds Tryd.pinned (.plain (OpenSpec.ofChange fnMayReadAnyUserAlongCreationAndOrderSpec)) fnMayReadAnyUserAlongCreationAndOrderCard
end Rows
end Go.Proofs.Qxb6614574aDoor
