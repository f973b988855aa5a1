/-
  No cell of these rows narrows 'for every input' (looked for: loops, veiled, ifaces, maps, wideKeys, modest, calm, conditions, laid).
  DERIVED. THE GIVEN ROWS OF THIS SEAT. 2 by the template 'for every input the law returns true; each argument reads behind the call as it read before'; 0 by the template 'total and deterministic' (their statements: Qxb6626077aTotals.lean).
  GIVEN WITH THE SEED: the statements are not yours to turn. If you find one false, say at which input.
  Laid BY PROGRAM, IN A SANDBOX (cutbox-rows.mjs): the forced cells as the released guide's own fill.sh prints them over the translation 356cdc385d4b5751… (all of the seat's roots in one cut). By AI agents, Wed Nov 11 2026. No macro, syntax, notation, axiom, sorry.
-/
import Derived.Test.Qxb6626077aChecked
import GoSem.Claim
import GoSem.ClaimJoined
import GoSem.ClaimMapViews
import Derived.JoinedTies
import Derived.KernelRfl
namespace Go.Proofs.Qxb6626077a
/- THE CELL 'sum', in the pinned program and in every row, IS THE sha256 OF THE DUMP (.gsa) THAT Qxb6626077aProg.lean LOADS. Nothing in Lean hashes anything: it is a label: what it is worth is what the hold of that sum in a sandbox is worth. -/
noncomputable def Try.pinned : Pinned := { name := "qxb6626077a", sum := "356cdc385d4b5751b1da3f4a85628d7e13e5b25b00488b41a2535a679b935b65", checked := Try.checked }
namespace Rows
def none {H : Type} : Left H := { results := [], args := [] }

/-- 'zzlaws_notify_b1.FnRouterAddQueuesByLastSend': WHATEVER THE INPUT: true; the input reads as it did. -/
def fnRouterAddQueuesByLastSendSpec : ChangeSpec := { name := "fnRouterAddQueuesByLastSend", fn := fun _ => fun
  | [d1, d2] => { results := [.lit (.bool true)], args := [d1, d2] }
  | _ => none }
def fnRouterAddQueuesByLastSendRow : OpenClaim := { program := "qxb6626077a", sum := "356cdc385d4b5751b1da3f4a85628d7e13e5b25b00488b41a2535a679b935b65", func := "example.com/smolder/smolder/zzlaws_notify_b1.FnRouterAddQueuesByLastSend", spec := "fnRouterAddQueuesByLastSend", inPlace := ["(*internal/sync.Mutex).Lock", "internal/race.Disable", "sync/atomic.CompareAndSwapInt32", "internal/race.Enable", "internal/race.Acquire", "(*internal/sync.Mutex).lockSlow", "internal/sync.runtime_canSpin", "internal/sync.runtime_doSpin", "internal/sync.throw", "internal/sync.runtime_nanotime", "internal/sync.runtime_SemacquireMutex", "sync/atomic.AddInt32", "(*internal/sync.Mutex).Unlock", "internal/race.ReleaseMerge", "(*internal/sync.Mutex).unlockSlow", "internal/sync.fatal", "internal/sync.runtime_Semrelease"], apart := false }
def FnRouterAddQueuesByLastSendSaid : Prop := fnRouterAddQueuesByLastSendRow.holds Try.pinned (OpenSpec.ofChange fnRouterAddQueuesByLastSendSpec)

/-- ITS FALSE NEIGHBOUR: 'it returns false'. Refute it at one input. -/
def fnRouterAddQueuesByLastSendWrong : ChangeSpec := { name := "fnRouterAddQueuesByLastSend", fn := fun _ => fun
  | [d1, d2] => { results := [.lit (.bool false)], args := [d1, d2] }
  | _ => none }
def FnRouterAddQueuesByLastSendWrongFalsely : Prop := fnRouterAddQueuesByLastSendRow.holds Try.pinned (OpenSpec.ofChange fnRouterAddQueuesByLastSendWrong)

/-- 'zzlaws_notify_b1.FnRouterAddSplitAgrees': WHATEVER THE INPUT: true; the input reads as it did. -/
def fnRouterAddSplitAgreesSpec : ChangeSpec := { name := "fnRouterAddSplitAgrees", fn := fun _ => fun
  | [d1, d2] => { results := [.lit (.bool true)], args := [d1, d2] }
  | _ => none }
def fnRouterAddSplitAgreesRow : OpenClaim := { program := "qxb6626077a", sum := "356cdc385d4b5751b1da3f4a85628d7e13e5b25b00488b41a2535a679b935b65", func := "example.com/smolder/smolder/zzlaws_notify_b1.FnRouterAddSplitAgrees", spec := "fnRouterAddSplitAgrees", inPlace := ["(*internal/sync.Mutex).Lock", "internal/race.Disable", "sync/atomic.CompareAndSwapInt32", "internal/race.Enable", "internal/race.Acquire", "(*internal/sync.Mutex).lockSlow", "internal/sync.runtime_canSpin", "internal/sync.runtime_doSpin", "internal/sync.throw", "internal/sync.runtime_nanotime", "internal/sync.runtime_SemacquireMutex", "sync/atomic.AddInt32", "(*internal/sync.Mutex).Unlock", "internal/race.ReleaseMerge", "(*internal/sync.Mutex).unlockSlow", "internal/sync.fatal", "internal/sync.runtime_Semrelease"], apart := false }
def FnRouterAddSplitAgreesSaid : Prop := fnRouterAddSplitAgreesRow.holds Try.pinned (OpenSpec.ofChange fnRouterAddSplitAgreesSpec)

/-- ITS FALSE NEIGHBOUR: 'it returns false'. Refute it at one input. -/
def fnRouterAddSplitAgreesWrong : ChangeSpec := { name := "fnRouterAddSplitAgrees", fn := fun _ => fun
  | [d1, d2] => { results := [.lit (.bool false)], args := [d1, d2] }
  | _ => none }
def FnRouterAddSplitAgreesWrongFalsely : Prop := fnRouterAddSplitAgreesRow.holds Try.pinned (OpenSpec.ofChange fnRouterAddSplitAgreesWrong)

end Rows
end Go.Proofs.Qxb6626077a
