/-
  No cell of these rows narrows 'for every input' (looked for: loops, veiled, ifaces, maps, wideKeys, modest, calm, conditions, laid).
  DERIVED. THE GIVEN ROWS OF THIS SEAT. 3 by the template 'for every input the law returns true; each argument reads behind the call as it read before'; 0 by the template 'total and deterministic' (their statements: Qxb6609258aTotals.lean).
  GIVEN WITH THE SEED: the statements are not yours to turn. If you find one false, say at which input.
  Laid BY PROGRAM, IN A SANDBOX (cutbox-rows.mjs): the forced cells as the released guide's own fill.sh prints them over the translation e9f9c1b4f5e322cc… (all of the seat's roots in one cut). By AI agents, Wed Nov 11 2026. No macro, syntax, notation, axiom, sorry.
-/
import Derived.Test.Qxb6609258aChecked
import GoSem.Claim
import GoSem.ClaimJoined
import GoSem.ClaimMapViews
import Derived.JoinedTies
import Derived.KernelRfl
namespace Go.Proofs.Qxb6609258a
/- THE CELL 'sum', in the pinned program and in every row, IS THE sha256 OF THE DUMP (.gsa) THAT Qxb6609258aProg.lean LOADS. Nothing in Lean hashes anything: it is a label: what it is worth is what the hold of that sum in a sandbox is worth. -/
noncomputable def Try.pinned : Pinned := { name := "qxb6609258a", sum := "e9f9c1b4f5e322cc56d085a137e895c1c64f97a9ec22ee68867bce13cc9b1cba", checked := Try.checked }
namespace Rows
def none {H : Type} : Left H := { results := [], args := [] }

/-- 'zzlaws_lockout_b1.FnPartIsTheRunsVotesOnTheSide': WHATEVER THE INPUT: true; the input reads as it did. -/
def fnPartIsTheRunsVotesOnTheSideSpec : ChangeSpec := { name := "fnPartIsTheRunsVotesOnTheSide", fn := fun _ => fun
  | [d1, d2, d3, d4, d5] => { results := [.lit (.bool true)], args := [d1, d2, d3, d4, d5] }
  | _ => none }
def fnPartIsTheRunsVotesOnTheSideRow : OpenClaim := { program := "qxb6609258a", sum := "e9f9c1b4f5e322cc56d085a137e895c1c64f97a9ec22ee68867bce13cc9b1cba", func := "example.com/quorumwatch/quorumwatch/zzlaws_lockout_b1.FnPartIsTheRunsVotesOnTheSide", spec := "fnPartIsTheRunsVotesOnTheSide", recurses := true, apart := false }
def FnPartIsTheRunsVotesOnTheSideSaid : Prop := fnPartIsTheRunsVotesOnTheSideRow.holds Try.pinned (OpenSpec.ofChange fnPartIsTheRunsVotesOnTheSideSpec)

/-- ITS FALSE NEIGHBOUR: 'it returns false'. Refute it at one input. -/
def fnPartIsTheRunsVotesOnTheSideWrong : ChangeSpec := { name := "fnPartIsTheRunsVotesOnTheSide", fn := fun _ => fun
  | [d1, d2, d3, d4, d5] => { results := [.lit (.bool false)], args := [d1, d2, d3, d4, d5] }
  | _ => none }
def FnPartIsTheRunsVotesOnTheSideWrongFalsely : Prop := fnPartIsTheRunsVotesOnTheSideRow.holds Try.pinned (OpenSpec.ofChange fnPartIsTheRunsVotesOnTheSideWrong)

/-- 'zzlaws_lockout_b1.FnPartOlderAndNewerSplitTheRunAtTheBound': WHATEVER THE INPUT: true; the input reads as it did. -/
def fnPartOlderAndNewerSplitTheRunAtTheBoundSpec : ChangeSpec := { name := "fnPartOlderAndNewerSplitTheRunAtTheBound", fn := fun _ => fun
  | [d1, d2, d3, d4] => { results := [.lit (.bool true)], args := [d1, d2, d3, d4] }
  | _ => none }
def fnPartOlderAndNewerSplitTheRunAtTheBoundRow : OpenClaim := { program := "qxb6609258a", sum := "e9f9c1b4f5e322cc56d085a137e895c1c64f97a9ec22ee68867bce13cc9b1cba", func := "example.com/quorumwatch/quorumwatch/zzlaws_lockout_b1.FnPartOlderAndNewerSplitTheRunAtTheBound", spec := "fnPartOlderAndNewerSplitTheRunAtTheBound", recurses := true, apart := false }
def FnPartOlderAndNewerSplitTheRunAtTheBoundSaid : Prop := fnPartOlderAndNewerSplitTheRunAtTheBoundRow.holds Try.pinned (OpenSpec.ofChange fnPartOlderAndNewerSplitTheRunAtTheBoundSpec)

/-- ITS FALSE NEIGHBOUR: 'it returns false'. Refute it at one input. -/
def fnPartOlderAndNewerSplitTheRunAtTheBoundWrong : ChangeSpec := { name := "fnPartOlderAndNewerSplitTheRunAtTheBound", fn := fun _ => fun
  | [d1, d2, d3, d4] => { results := [.lit (.bool false)], args := [d1, d2, d3, d4] }
  | _ => none }
def FnPartOlderAndNewerSplitTheRunAtTheBoundWrongFalsely : Prop := fnPartOlderAndNewerSplitTheRunAtTheBoundRow.holds Try.pinned (OpenSpec.ofChange fnPartOlderAndNewerSplitTheRunAtTheBoundWrong)

/-- 'zzlaws_lockout_b1.FnEachOlderIsTheSameOnAnyTreeShape': WHATEVER THE INPUT: true; the input reads as it did. -/
def fnEachOlderIsTheSameOnAnyTreeShapeSpec : ChangeSpec := { name := "fnEachOlderIsTheSameOnAnyTreeShape", fn := fun _ => fun
  | [d1, d2, d3] => { results := [.lit (.bool true)], args := [d1, d2, d3] }
  | _ => none }
def fnEachOlderIsTheSameOnAnyTreeShapeRow : OpenClaim := { program := "qxb6609258a", sum := "e9f9c1b4f5e322cc56d085a137e895c1c64f97a9ec22ee68867bce13cc9b1cba", func := "example.com/quorumwatch/quorumwatch/zzlaws_lockout_b1.FnEachOlderIsTheSameOnAnyTreeShape", spec := "fnEachOlderIsTheSameOnAnyTreeShape", unfollowed := true, recurses := true, apart := false }
def FnEachOlderIsTheSameOnAnyTreeShapeSaid : Prop := fnEachOlderIsTheSameOnAnyTreeShapeRow.holds Try.pinned (OpenSpec.ofChange fnEachOlderIsTheSameOnAnyTreeShapeSpec)

/-- ITS FALSE NEIGHBOUR: 'it returns false'. Refute it at one input. -/
def fnEachOlderIsTheSameOnAnyTreeShapeWrong : ChangeSpec := { name := "fnEachOlderIsTheSameOnAnyTreeShape", fn := fun _ => fun
  | [d1, d2, d3] => { results := [.lit (.bool false)], args := [d1, d2, d3] }
  | _ => none }
def FnEachOlderIsTheSameOnAnyTreeShapeWrongFalsely : Prop := fnEachOlderIsTheSameOnAnyTreeShapeRow.holds Try.pinned (OpenSpec.ofChange fnEachOlderIsTheSameOnAnyTreeShapeWrong)

end Rows
end Go.Proofs.Qxb6609258a
