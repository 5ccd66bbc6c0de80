/-
  No cell of these rows narrows 'for every input' (looked for: loops, veiled, ifaces, maps, wideKeys, modest, calm, conditions, laid).
  DERIVED. THE GIVEN ROWS OF THIS SEAT. 3 by the template 'for every input the law returns true; each argument reads behind the call as it read before'; 0 by the template 'total and deterministic' (their statements: Qxb6612602aTotals.lean).
  GIVEN WITH THE SEED: the statements are not yours to turn. If you find one false, say at which input.
  Laid BY PROGRAM, IN A SANDBOX (cutbox-rows.mjs): the forced cells as the released guide's own fill.sh prints them over the translation 409611558f76261b… (all of the seat's roots in one cut). By AI agents, Wed Nov 11 2026. No macro, syntax, notation, axiom, sorry.
-/
import Derived.Test.Qxb6612602aChecked
import GoSem.Claim
import GoSem.ClaimJoined
import GoSem.ClaimMapViews
import Derived.JoinedTies
import Derived.KernelRfl
namespace Go.Proofs.Qxb6612602a
/- THE CELL 'sum', in the pinned program and in every row, IS THE sha256 OF THE DUMP (.gsa) THAT Qxb6612602aProg.lean LOADS. Nothing in Lean hashes anything: it is a label: what it is worth is what the hold of that sum in a sandbox is worth. -/
noncomputable def Try.pinned : Pinned := { name := "qxb6612602a", sum := "409611558f76261bd396f9c53138a25caf200e32742aeb5c0fdf30ff5f328b68", checked := Try.checked }
namespace Rows
def none {H : Type} : Left H := { results := [], args := [] }

/-- 'zzlaws_root_b1.FnScanLastSymmetricAndAtStart': WHATEVER THE INPUT: true; the input reads as it did. -/
def fnScanLastSymmetricAndAtStartSpec : ChangeSpec := { name := "fnScanLastSymmetricAndAtStart", fn := fun _ => fun
  | [d1, d2, d3, d4] => { results := [.lit (.bool true)], args := [d1, d2, d3, d4] }
  | _ => none }
def fnScanLastSymmetricAndAtStartRow : OpenClaim := { program := "qxb6612602a", sum := "409611558f76261bd396f9c53138a25caf200e32742aeb5c0fdf30ff5f328b68", func := "example.com/undoline/undoline/zzlaws_root_b1.FnScanLastSymmetricAndAtStart", spec := "fnScanLastSymmetricAndAtStart", apart := false }
def FnScanLastSymmetricAndAtStartSaid : Prop := fnScanLastSymmetricAndAtStartRow.holds Try.pinned (OpenSpec.ofChange fnScanLastSymmetricAndAtStartSpec)

/-- ITS FALSE NEIGHBOUR: 'it returns false'. Refute it at one input. -/
def fnScanLastSymmetricAndAtStartWrong : ChangeSpec := { name := "fnScanLastSymmetricAndAtStart", fn := fun _ => fun
  | [d1, d2, d3, d4] => { results := [.lit (.bool false)], args := [d1, d2, d3, d4] }
  | _ => none }
def FnScanLastSymmetricAndAtStartWrongFalsely : Prop := fnScanLastSymmetricAndAtStartRow.holds Try.pinned (OpenSpec.ofChange fnScanLastSymmetricAndAtStartWrong)

/-- 'zzlaws_root_b1.FnUnlistedViewLowKeptAcrossFirstWrite': WHATEVER THE INPUT: true; the input reads as it did. -/
def fnUnlistedViewLowKeptAcrossFirstWriteSpec : ChangeSpec := { name := "fnUnlistedViewLowKeptAcrossFirstWrite", fn := fun _ => fun
  | [d1, d2, d3] => { results := [.lit (.bool true)], args := [d1, d2, d3] }
  | _ => none }
def fnUnlistedViewLowKeptAcrossFirstWriteRow : OpenClaim := { program := "qxb6612602a", sum := "409611558f76261bd396f9c53138a25caf200e32742aeb5c0fdf30ff5f328b68", func := "example.com/undoline/undoline/zzlaws_root_b1.FnUnlistedViewLowKeptAcrossFirstWrite", spec := "fnUnlistedViewLowKeptAcrossFirstWrite", inPlace := ["(*internal/sync.Mutex).Lock", "internal/race.Disable", "sync/atomic.CompareAndSwapInt32", "internal/race.Enable", "internal/race.Acquire", "(*internal/sync.Mutex).lockSlow", "internal/sync.runtime_canSpin", "internal/sync.runtime_doSpin", "internal/sync.throw", "internal/sync.runtime_nanotime", "internal/sync.runtime_SemacquireMutex", "sync/atomic.AddInt32", "(*internal/sync.Mutex).Unlock", "internal/race.ReleaseMerge", "(*internal/sync.Mutex).unlockSlow", "internal/sync.fatal", "internal/sync.runtime_Semrelease"], apart := false }
def FnUnlistedViewLowKeptAcrossFirstWriteSaid : Prop := fnUnlistedViewLowKeptAcrossFirstWriteRow.holds Try.pinned (OpenSpec.ofChange fnUnlistedViewLowKeptAcrossFirstWriteSpec)

/-- ITS FALSE NEIGHBOUR: 'it returns false'. Refute it at one input. -/
def fnUnlistedViewLowKeptAcrossFirstWriteWrong : ChangeSpec := { name := "fnUnlistedViewLowKeptAcrossFirstWrite", fn := fun _ => fun
  | [d1, d2, d3] => { results := [.lit (.bool false)], args := [d1, d2, d3] }
  | _ => none }
def FnUnlistedViewLowKeptAcrossFirstWriteWrongFalsely : Prop := fnUnlistedViewLowKeptAcrossFirstWriteRow.holds Try.pinned (OpenSpec.ofChange fnUnlistedViewLowKeptAcrossFirstWriteWrong)

/-- 'zzlaws_root_b1.FnUnlistedViewAcrossCommit': WHATEVER THE INPUT: true; the input reads as it did. -/
def fnUnlistedViewAcrossCommitSpec : ChangeSpec := { name := "fnUnlistedViewAcrossCommit", fn := fun _ => fun
  | [d1, d2, d3, d4] => { results := [.lit (.bool true)], args := [d1, d2, d3, d4] }
  | _ => none }
def fnUnlistedViewAcrossCommitRow : OpenClaim := { program := "qxb6612602a", sum := "409611558f76261bd396f9c53138a25caf200e32742aeb5c0fdf30ff5f328b68", func := "example.com/undoline/undoline/zzlaws_root_b1.FnUnlistedViewAcrossCommit", spec := "fnUnlistedViewAcrossCommit", inPlace := ["(*internal/sync.Mutex).Lock", "internal/race.Disable", "sync/atomic.CompareAndSwapInt32", "internal/race.Enable", "internal/race.Acquire", "(*internal/sync.Mutex).lockSlow", "internal/sync.runtime_canSpin", "internal/sync.runtime_doSpin", "internal/sync.throw", "internal/sync.runtime_nanotime", "internal/sync.runtime_SemacquireMutex", "sync/atomic.AddInt32", "(*internal/sync.Mutex).Unlock", "internal/race.ReleaseMerge", "(*internal/sync.Mutex).unlockSlow", "internal/sync.fatal", "internal/sync.runtime_Semrelease"], apart := false }
def FnUnlistedViewAcrossCommitSaid : Prop := fnUnlistedViewAcrossCommitRow.holds Try.pinned (OpenSpec.ofChange fnUnlistedViewAcrossCommitSpec)

/-- ITS FALSE NEIGHBOUR: 'it returns false'. Refute it at one input. -/
def fnUnlistedViewAcrossCommitWrong : ChangeSpec := { name := "fnUnlistedViewAcrossCommit", fn := fun _ => fun
  | [d1, d2, d3, d4] => { results := [.lit (.bool false)], args := [d1, d2, d3, d4] }
  | _ => none }
def FnUnlistedViewAcrossCommitWrongFalsely : Prop := fnUnlistedViewAcrossCommitRow.holds Try.pinned (OpenSpec.ofChange fnUnlistedViewAcrossCommitWrong)

end Rows
end Go.Proofs.Qxb6612602a
