/-
  No cell of these rows narrows 'for every input' (looked for: loops, veiled, ifaces, maps, wideKeys, modest, calm, conditions, laid).
  DERIVED. THE GIVEN ROWS OF THIS SEAT. 2 by the template 'for every input the law returns true; each argument reads behind the call as it read before'; 0 by the template 'total and deterministic' (their statements: Qxb6628962aTotals.lean).
  GIVEN WITH THE SEED: the statements are not yours to turn. If you find one false, say at which input.
  Laid BY PROGRAM, IN A SANDBOX (cutbox-rows.mjs): the forced cells as the released guide's own fill.sh prints them over the translation c205e5fe7414772b… (all of the seat's roots in one cut). By AI agents, Wed Nov 11 2026. No macro, syntax, notation, axiom, sorry.
-/
import Derived.Test.Qxb6628962aChecked
import GoSem.Claim
import GoSem.ClaimJoined
import GoSem.ClaimMapViews
import Derived.JoinedTies
import Derived.KernelRfl
namespace Go.Proofs.Qxb6628962a
/- THE CELL 'sum', in the pinned program and in every row, IS THE sha256 OF THE DUMP (.gsa) THAT Qxb6628962aProg.lean LOADS. Nothing in Lean hashes anything: it is a label: what it is worth is what the hold of that sum in a sandbox is worth. -/
noncomputable def Try.pinned : Pinned := { name := "qxb6628962a", sum := "c205e5fe7414772bc323e42ede0fc92c73cf01ce179b392d46dac73a4fc1ff83", checked := Try.checked }
namespace Rows
def none {H : Type} : Left H := { results := [], args := [] }

/-- 'zzlaws_internal_store_b1.FnMoveHighestTakenOnlyRaisesHighest': WHATEVER THE INPUT: true; the input reads as it did. -/
def fnMoveHighestTakenOnlyRaisesHighestSpec : ChangeSpec := { name := "fnMoveHighestTakenOnlyRaisesHighest", fn := fun _ => fun
  | [d1, d2, d3, d4, d5] => { results := [.lit (.bool true)], args := [d1, d2, d3, d4, d5] }
  | _ => none }
def fnMoveHighestTakenOnlyRaisesHighestRow : OpenClaim := { program := "qxb6628962a", sum := "c205e5fe7414772bc323e42ede0fc92c73cf01ce179b392d46dac73a4fc1ff83", func := "example.com/pending-to-published/pending-to-published/zzlaws_internal_store_b1.FnMoveHighestTakenOnlyRaisesHighest", spec := "fnMoveHighestTakenOnlyRaisesHighest", inPlace := ["(*internal/sync.Mutex).Lock", "internal/race.Disable", "sync/atomic.CompareAndSwapInt32", "internal/race.Enable", "internal/race.Acquire", "(*internal/sync.Mutex).lockSlow", "internal/sync.runtime_canSpin", "internal/sync.runtime_doSpin", "internal/sync.throw", "internal/sync.runtime_nanotime", "internal/sync.runtime_SemacquireMutex", "sync/atomic.AddInt32", "(*internal/sync.Mutex).Unlock", "internal/race.ReleaseMerge", "(*internal/sync.Mutex).unlockSlow", "internal/sync.fatal", "internal/sync.runtime_Semrelease"], apart := false }
def FnMoveHighestTakenOnlyRaisesHighestSaid : Prop := fnMoveHighestTakenOnlyRaisesHighestRow.holds Try.pinned (OpenSpec.ofChange fnMoveHighestTakenOnlyRaisesHighestSpec)

/-- ITS FALSE NEIGHBOUR: 'it returns false'. Refute it at one input. -/
def fnMoveHighestTakenOnlyRaisesHighestWrong : ChangeSpec := { name := "fnMoveHighestTakenOnlyRaisesHighest", fn := fun _ => fun
  | [d1, d2, d3, d4, d5] => { results := [.lit (.bool false)], args := [d1, d2, d3, d4, d5] }
  | _ => none }
def FnMoveHighestTakenOnlyRaisesHighestWrongFalsely : Prop := fnMoveHighestTakenOnlyRaisesHighestRow.holds Try.pinned (OpenSpec.ofChange fnMoveHighestTakenOnlyRaisesHighestWrong)

/-- 'zzlaws_internal_store_b1.FnMoveSettlesFloorOnce': WHATEVER THE INPUT: true; the input reads as it did. -/
def fnMoveSettlesFloorOnceSpec : ChangeSpec := { name := "fnMoveSettlesFloorOnce", fn := fun _ => fun
  | [d1, d2, d3, d4] => { results := [.lit (.bool true)], args := [d1, d2, d3, d4] }
  | _ => none }
def fnMoveSettlesFloorOnceRow : OpenClaim := { program := "qxb6628962a", sum := "c205e5fe7414772bc323e42ede0fc92c73cf01ce179b392d46dac73a4fc1ff83", func := "example.com/pending-to-published/pending-to-published/zzlaws_internal_store_b1.FnMoveSettlesFloorOnce", spec := "fnMoveSettlesFloorOnce", inPlace := ["(*internal/sync.Mutex).Lock", "internal/race.Disable", "sync/atomic.CompareAndSwapInt32", "internal/race.Enable", "internal/race.Acquire", "(*internal/sync.Mutex).lockSlow", "internal/sync.runtime_canSpin", "internal/sync.runtime_doSpin", "internal/sync.throw", "internal/sync.runtime_nanotime", "internal/sync.runtime_SemacquireMutex", "sync/atomic.AddInt32", "(*internal/sync.Mutex).Unlock", "internal/race.ReleaseMerge", "(*internal/sync.Mutex).unlockSlow", "internal/sync.fatal", "internal/sync.runtime_Semrelease"], apart := false }
def FnMoveSettlesFloorOnceSaid : Prop := fnMoveSettlesFloorOnceRow.holds Try.pinned (OpenSpec.ofChange fnMoveSettlesFloorOnceSpec)

/-- ITS FALSE NEIGHBOUR: 'it returns false'. Refute it at one input. -/
def fnMoveSettlesFloorOnceWrong : ChangeSpec := { name := "fnMoveSettlesFloorOnce", fn := fun _ => fun
  | [d1, d2, d3, d4] => { results := [.lit (.bool false)], args := [d1, d2, d3, d4] }
  | _ => none }
def FnMoveSettlesFloorOnceWrongFalsely : Prop := fnMoveSettlesFloorOnceRow.holds Try.pinned (OpenSpec.ofChange fnMoveSettlesFloorOnceWrong)

end Rows
end Go.Proofs.Qxb6628962a
