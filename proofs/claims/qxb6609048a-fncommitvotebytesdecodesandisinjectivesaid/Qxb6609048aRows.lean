/-
  No cell of these rows narrows 'for every input' (looked for: loops, veiled, ifaces, maps, wideKeys, modest, calm, conditions, laid).
  DERIVED. THE GIVEN ROWS OF THIS SEAT. 2 by the template 'for every input the law returns true; each argument reads behind the call as it read before'; 0 by the template 'total and deterministic' (their statements: Qxb6609048aTotals.lean).
  GIVEN WITH THE SEED: the statements are not yours to turn. If you find one false, say at which input.
  Laid BY PROGRAM, IN A SANDBOX (cutbox-rows.mjs): the forced cells as the released guide's own fill.sh prints them over the translation e599c7bac323a240… (all of the seat's roots in one cut). By AI agents, Wed Nov 11 2026. No macro, syntax, notation, axiom, sorry.
-/
import Derived.Test.Qxb6609048aChecked
import GoSem.Claim
import GoSem.ClaimJoined
import GoSem.ClaimMapViews
import Derived.JoinedTies
import Derived.KernelRfl
namespace Go.Proofs.Qxb6609048a
/- THE CELL 'sum', in the pinned program and in every row, IS THE sha256 OF THE DUMP (.gsa) THAT Qxb6609048aProg.lean LOADS. Nothing in Lean hashes anything: it is a label: what it is worth is what the hold of that sum in a sandbox is worth. -/
noncomputable def Try.pinned : Pinned := { name := "qxb6609048a", sum := "e599c7bac323a240afe0ad405f2098faee32d54c4a6f116789ba59434753648d", checked := Try.checked }
namespace Rows
def none {H : Type} : Left H := { results := [], args := [] }

/-- 'zzlaws_internal_consensus_b1.FnCommitVoteBytesDecodesAndIsInjective': WHATEVER THE INPUT: true; the input reads as it did. -/
def fnCommitVoteBytesDecodesAndIsInjectiveSpec : ChangeSpec := { name := "fnCommitVoteBytesDecodesAndIsInjective", fn := fun _ => fun
  | [d1, d2, d3, d4, d5, d6, d7, d8] => { results := [.lit (.bool true)], args := [d1, d2, d3, d4, d5, d6, d7, d8] }
  | _ => none }
def fnCommitVoteBytesDecodesAndIsInjectiveRow : OpenClaim := { program := "qxb6609048a", sum := "e599c7bac323a240afe0ad405f2098faee32d54c4a6f116789ba59434753648d", func := "example.com/quorumline/quorumline/zzlaws_internal_consensus_b1.FnCommitVoteBytesDecodesAndIsInjective", spec := "fnCommitVoteBytesDecodesAndIsInjective", named := ["encoding/binary.BigEndian"], apart := false }
def FnCommitVoteBytesDecodesAndIsInjectiveSaid : Prop := fnCommitVoteBytesDecodesAndIsInjectiveRow.holds Try.pinned (OpenSpec.ofChange fnCommitVoteBytesDecodesAndIsInjectiveSpec)

/-- ITS FALSE NEIGHBOUR: 'it returns false'. Refute it at one input. -/
def fnCommitVoteBytesDecodesAndIsInjectiveWrong : ChangeSpec := { name := "fnCommitVoteBytesDecodesAndIsInjective", fn := fun _ => fun
  | [d1, d2, d3, d4, d5, d6, d7, d8] => { results := [.lit (.bool false)], args := [d1, d2, d3, d4, d5, d6, d7, d8] }
  | _ => none }
def FnCommitVoteBytesDecodesAndIsInjectiveWrongFalsely : Prop := fnCommitVoteBytesDecodesAndIsInjectiveRow.holds Try.pinned (OpenSpec.ofChange fnCommitVoteBytesDecodesAndIsInjectiveWrong)

/-- 'zzlaws_internal_consensus_b1.FnCommitVoteBytesSplitsIntoChainPartAndVotePart': WHATEVER THE INPUT: true; the input reads as it did. -/
def fnCommitVoteBytesSplitsIntoChainPartAndVotePartSpec : ChangeSpec := { name := "fnCommitVoteBytesSplitsIntoChainPartAndVotePart", fn := fun _ => fun
  | [d1, d2, d3, d4, d5, d6, d7, d8] => { results := [.lit (.bool true)], args := [d1, d2, d3, d4, d5, d6, d7, d8] }
  | _ => none }
def fnCommitVoteBytesSplitsIntoChainPartAndVotePartRow : OpenClaim := { program := "qxb6609048a", sum := "e599c7bac323a240afe0ad405f2098faee32d54c4a6f116789ba59434753648d", func := "example.com/quorumline/quorumline/zzlaws_internal_consensus_b1.FnCommitVoteBytesSplitsIntoChainPartAndVotePart", spec := "fnCommitVoteBytesSplitsIntoChainPartAndVotePart", named := ["encoding/binary.BigEndian"], apart := false }
def FnCommitVoteBytesSplitsIntoChainPartAndVotePartSaid : Prop := fnCommitVoteBytesSplitsIntoChainPartAndVotePartRow.holds Try.pinned (OpenSpec.ofChange fnCommitVoteBytesSplitsIntoChainPartAndVotePartSpec)

/-- ITS FALSE NEIGHBOUR: 'it returns false'. Refute it at one input. -/
def fnCommitVoteBytesSplitsIntoChainPartAndVotePartWrong : ChangeSpec := { name := "fnCommitVoteBytesSplitsIntoChainPartAndVotePart", fn := fun _ => fun
  | [d1, d2, d3, d4, d5, d6, d7, d8] => { results := [.lit (.bool false)], args := [d1, d2, d3, d4, d5, d6, d7, d8] }
  | _ => none }
def FnCommitVoteBytesSplitsIntoChainPartAndVotePartWrongFalsely : Prop := fnCommitVoteBytesSplitsIntoChainPartAndVotePartRow.holds Try.pinned (OpenSpec.ofChange fnCommitVoteBytesSplitsIntoChainPartAndVotePartWrong)

end Rows
end Go.Proofs.Qxb6609048a
