/-
  No cell of these rows narrows 'for every input' (looked for: loops, veiled, ifaces, maps, wideKeys, modest, calm, conditions, laid).
  DERIVED. THE GIVEN ROWS OF THIS SEAT. 2 by the template 'for every input the law returns true; each argument reads behind the call as it read before'; 0 by the template 'total and deterministic' (their statements: Qxb6603483aTotals.lean).
  GIVEN WITH THE SEED: the statements are not yours to turn. If you find one false, say at which input.
  Laid BY PROGRAM, IN A SANDBOX (cutbox-rows.mjs): the forced cells as the released guide's own fill.sh prints them over the translation 21e48d3033569cce… (all of the seat's roots in one cut). By AI agents, Wed Nov 11 2026. No macro, syntax, notation, axiom, sorry.
-/
import Derived.Test.Qxb6603483aChecked
import GoSem.Claim
import GoSem.ClaimJoined
import GoSem.ClaimMapViews
import Derived.JoinedTies
import Derived.KernelRfl
namespace Go.Proofs.Qxb6603483a
/- THE CELL 'sum', in the pinned program and in every row, IS THE sha256 OF THE DUMP (.gsa) THAT Qxb6603483aProg.lean LOADS. Nothing in Lean hashes anything: it is a label: what it is worth is what the hold of that sum in a sandbox is worth. -/
noncomputable def Try.pinned : Pinned := { name := "qxb6603483a", sum := "21e48d3033569ccefed483cca07b7f620eb6430ed33faccd548f0a4dad37bffd", checked := Try.checked }
namespace Rows
def none {H : Type} : Left H := { results := [], args := [] }

/-- 'zzlaws_internal_store_b1.FnStateSetKeepsExactlyTheLastLiveEntryOfEachKey': WHATEVER THE INPUT: true; the input reads as it did. -/
def fnStateSetKeepsExactlyTheLastLiveEntryOfEachKeySpec : ChangeSpec := { name := "fnStateSetKeepsExactlyTheLastLiveEntryOfEachKey", fn := fun _ => fun
  | [d] => { results := [.lit (.bool true)], args := [d] }
  | _ => none }
def fnStateSetKeepsExactlyTheLastLiveEntryOfEachKeyRow : OpenClaim := { program := "qxb6603483a", sum := "21e48d3033569ccefed483cca07b7f620eb6430ed33faccd548f0a4dad37bffd", func := "example.com/quorumline/quorumline/zzlaws_internal_store_b1.FnStateSetKeepsExactlyTheLastLiveEntryOfEachKey", spec := "fnStateSetKeepsExactlyTheLastLiveEntryOfEachKey", inPlace := ["(*internal/sync.Mutex).Lock", "internal/race.Disable", "sync/atomic.CompareAndSwapInt32", "internal/race.Enable", "internal/race.Acquire", "(*internal/sync.Mutex).lockSlow", "internal/sync.runtime_canSpin", "internal/sync.runtime_doSpin", "internal/sync.throw", "internal/sync.runtime_nanotime", "internal/sync.runtime_SemacquireMutex", "sync/atomic.AddInt32", "(*internal/sync.Mutex).Unlock", "internal/race.ReleaseMerge", "(*internal/sync.Mutex).unlockSlow", "internal/sync.fatal", "internal/sync.runtime_Semrelease"], unfollowed := true, recurses := true, plainKeys := false, apart := false }
def FnStateSetKeepsExactlyTheLastLiveEntryOfEachKeySaid : Prop := fnStateSetKeepsExactlyTheLastLiveEntryOfEachKeyRow.holds Try.pinned (OpenSpec.ofChange fnStateSetKeepsExactlyTheLastLiveEntryOfEachKeySpec)

/-- ITS FALSE NEIGHBOUR: 'it returns false'. Refute it at one input. -/
def fnStateSetKeepsExactlyTheLastLiveEntryOfEachKeyWrong : ChangeSpec := { name := "fnStateSetKeepsExactlyTheLastLiveEntryOfEachKey", fn := fun _ => fun
  | [d] => { results := [.lit (.bool false)], args := [d] }
  | _ => none }
def FnStateSetKeepsExactlyTheLastLiveEntryOfEachKeyWrongFalsely : Prop := fnStateSetKeepsExactlyTheLastLiveEntryOfEachKeyRow.holds Try.pinned (OpenSpec.ofChange fnStateSetKeepsExactlyTheLastLiveEntryOfEachKeyWrong)

/-- 'zzlaws_internal_store_b1.FnStateSetNotesEveryKeyForEveryFollower': WHATEVER THE INPUT: true; the input reads as it did. -/
def fnStateSetNotesEveryKeyForEveryFollowerSpec : ChangeSpec := { name := "fnStateSetNotesEveryKeyForEveryFollower", fn := fun _ => fun
  | [d1, d2] => { results := [.lit (.bool true)], args := [d1, d2] }
  | _ => none }
def fnStateSetNotesEveryKeyForEveryFollowerRow : OpenClaim := { program := "qxb6603483a", sum := "21e48d3033569ccefed483cca07b7f620eb6430ed33faccd548f0a4dad37bffd", func := "example.com/quorumline/quorumline/zzlaws_internal_store_b1.FnStateSetNotesEveryKeyForEveryFollower", spec := "fnStateSetNotesEveryKeyForEveryFollower", inPlace := ["(*internal/sync.Mutex).Lock", "internal/race.Disable", "sync/atomic.CompareAndSwapInt32", "internal/race.Enable", "internal/race.Acquire", "(*internal/sync.Mutex).lockSlow", "internal/sync.runtime_canSpin", "internal/sync.runtime_doSpin", "internal/sync.throw", "internal/sync.runtime_nanotime", "internal/sync.runtime_SemacquireMutex", "sync/atomic.AddInt32", "(*internal/sync.Mutex).Unlock", "internal/race.ReleaseMerge", "(*internal/sync.Mutex).unlockSlow", "internal/sync.fatal", "internal/sync.runtime_Semrelease"], unfollowed := true, recurses := true, plainKeys := false, apart := false }
def FnStateSetNotesEveryKeyForEveryFollowerSaid : Prop := fnStateSetNotesEveryKeyForEveryFollowerRow.holds Try.pinned (OpenSpec.ofChange fnStateSetNotesEveryKeyForEveryFollowerSpec)

/-- ITS FALSE NEIGHBOUR: 'it returns false'. Refute it at one input. -/
def fnStateSetNotesEveryKeyForEveryFollowerWrong : ChangeSpec := { name := "fnStateSetNotesEveryKeyForEveryFollower", fn := fun _ => fun
  | [d1, d2] => { results := [.lit (.bool false)], args := [d1, d2] }
  | _ => none }
def FnStateSetNotesEveryKeyForEveryFollowerWrongFalsely : Prop := fnStateSetNotesEveryKeyForEveryFollowerRow.holds Try.pinned (OpenSpec.ofChange fnStateSetNotesEveryKeyForEveryFollowerWrong)

end Rows
end Go.Proofs.Qxb6603483a
