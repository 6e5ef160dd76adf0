/-
  No cell of these rows narrows 'for every input' (looked for: loops, veiled, ifaces, maps, wideKeys, modest, calm, conditions, laid).
  DERIVED. THE GIVEN ROWS OF THIS SEAT. 2 by the template 'for every input the law returns true; each argument reads behind the call as it read before'; 0 by the template 'total and deterministic' (their statements: Qxb6614944aTotals.lean).
  GIVEN WITH THE SEED: the statements are not yours to turn. If you find one false, say at which input.
  Laid BY PROGRAM, IN A SANDBOX (cutbox-rows.mjs): the forced cells as the released guide's own fill.sh prints them over the translation b6253f42384f364d… (all of the seat's roots in one cut). By AI agents, Wed Nov 11 2026. No macro, syntax, notation, axiom, sorry.
-/
import Derived.Test.Qxb6614944aChecked
import GoSem.Claim
import GoSem.ClaimJoined
import GoSem.ClaimMapViews
import Derived.JoinedTies
import Derived.KernelRfl
namespace Go.Proofs.Qxb6614944a
/- THE CELL 'sum', in the pinned program and in every row, IS THE sha256 OF THE DUMP (.gsa) THAT Qxb6614944aProg.lean LOADS. Nothing in Lean hashes anything: it is a label: what it is worth is what the hold of that sum in a sandbox is worth. -/
noncomputable def Try.pinned : Pinned := { name := "qxb6614944a", sum := "b6253f42384f364d08e17aa59d2539eed647b4279811603e91c58aa34b494779", checked := Try.checked }
namespace Rows
def none {H : Type} : Left H := { results := [], args := [] }

/-- 'zzlaws_protocol_b1.FnOneRoundMinStepSplit': WHATEVER THE INPUT: true; the input reads as it did. -/
def fnOneRoundMinStepSplitSpec : ChangeSpec := { name := "fnOneRoundMinStepSplit", fn := fun _ => fun
  | [d1, d2, d3, d4, d5, d6, d7] => { results := [.lit (.bool true)], args := [d1, d2, d3, d4, d5, d6, d7] }
  | _ => none }
def fnOneRoundMinStepSplitRow : OpenClaim := { program := "qxb6614944a", sum := "b6253f42384f364d08e17aa59d2539eed647b4279811603e91c58aa34b494779", func := "example.com/entente/entente/zzlaws_protocol_b1.FnOneRoundMinStepSplit", spec := "fnOneRoundMinStepSplit", unfollowed := true, recurses := true, apart := false }
def FnOneRoundMinStepSplitSaid : Prop := fnOneRoundMinStepSplitRow.holds Try.pinned (OpenSpec.ofChange fnOneRoundMinStepSplitSpec)

/-- ITS FALSE NEIGHBOUR: 'it returns false'. Refute it at one input. -/
def fnOneRoundMinStepSplitWrong : ChangeSpec := { name := "fnOneRoundMinStepSplit", fn := fun _ => fun
  | [d1, d2, d3, d4, d5, d6, d7] => { results := [.lit (.bool false)], args := [d1, d2, d3, d4, d5, d6, d7] }
  | _ => none }
def FnOneRoundMinStepSplitWrongFalsely : Prop := fnOneRoundMinStepSplitRow.holds Try.pinned (OpenSpec.ofChange fnOneRoundMinStepSplitWrong)

/-- 'zzlaws_protocol_b1.FnOneRoundMinStepOrderFreeInsert': WHATEVER THE INPUT: true; the input reads as it did. -/
def fnOneRoundMinStepOrderFreeInsertSpec : ChangeSpec := { name := "fnOneRoundMinStepOrderFreeInsert", fn := fun _ => fun
  | [d1, d2, d3, d4, d5, d6, d7, d8] => { results := [.lit (.bool true)], args := [d1, d2, d3, d4, d5, d6, d7, d8] }
  | _ => none }
def fnOneRoundMinStepOrderFreeInsertRow : OpenClaim := { program := "qxb6614944a", sum := "b6253f42384f364d08e17aa59d2539eed647b4279811603e91c58aa34b494779", func := "example.com/entente/entente/zzlaws_protocol_b1.FnOneRoundMinStepOrderFreeInsert", spec := "fnOneRoundMinStepOrderFreeInsert", unfollowed := true, recurses := true, apart := false }
def FnOneRoundMinStepOrderFreeInsertSaid : Prop := fnOneRoundMinStepOrderFreeInsertRow.holds Try.pinned (OpenSpec.ofChange fnOneRoundMinStepOrderFreeInsertSpec)

/-- ITS FALSE NEIGHBOUR: 'it returns false'. Refute it at one input. -/
def fnOneRoundMinStepOrderFreeInsertWrong : ChangeSpec := { name := "fnOneRoundMinStepOrderFreeInsert", fn := fun _ => fun
  | [d1, d2, d3, d4, d5, d6, d7, d8] => { results := [.lit (.bool false)], args := [d1, d2, d3, d4, d5, d6, d7, d8] }
  | _ => none }
def FnOneRoundMinStepOrderFreeInsertWrongFalsely : Prop := fnOneRoundMinStepOrderFreeInsertRow.holds Try.pinned (OpenSpec.ofChange fnOneRoundMinStepOrderFreeInsertWrong)

end Rows
end Go.Proofs.Qxb6614944a
