/-
  No cell of these rows narrows 'for every input' (looked for: loops, veiled, ifaces, maps, wideKeys, modest, calm, conditions, laid).
  DERIVED. THE GIVEN ROWS OF THIS SEAT. 3 by the template 'for every input the law returns true; each argument reads behind the call as it read before'; 0 by the template 'total and deterministic' (their statements: Qxb6612260aTotals.lean).
  GIVEN WITH THE SEED: the statements are not yours to turn. If you find one false, say at which input.
  Laid BY PROGRAM, IN A SANDBOX (cutbox-rows.mjs): the forced cells as the released guide's own fill.sh prints them over the translation ec65d06159d1100a… (all of the seat's roots in one cut). By AI agents, Wed Nov 11 2026. No macro, syntax, notation, axiom, sorry.
-/
import Derived.Test.Qxb6612260aChecked
import GoSem.Claim
import GoSem.ClaimJoined
import GoSem.ClaimMapViews
import Derived.JoinedTies
import Derived.KernelRfl
namespace Go.Proofs.Qxb6612260a
/- THE CELL 'sum', in the pinned program and in every row, IS THE sha256 OF THE DUMP (.gsa) THAT Qxb6612260aProg.lean LOADS. Nothing in Lean hashes anything: it is a label: what it is worth is what the hold of that sum in a sandbox is worth. -/
noncomputable def Try.pinned : Pinned := { name := "qxb6612260a", sum := "ec65d06159d1100a500b6bd8536f6e659ecd2352479ffca42986f0b28c3fddf3", checked := Try.checked }
namespace Rows
def none {H : Type} : Left H := { results := [], args := [] }

/-- 'zzlaws_pkg_logline_b1.FnQueueWriteStringAgreesWithWrite': WHATEVER THE INPUT: true; the input reads as it did. -/
def fnQueueWriteStringAgreesWithWriteSpec : ChangeSpec := { name := "fnQueueWriteStringAgreesWithWrite", fn := fun _ => fun
  | [d] => { results := [.lit (.bool true)], args := [d] }
  | _ => none }
def fnQueueWriteStringAgreesWithWriteRow : OpenClaim := { program := "qxb6612260a", sum := "ec65d06159d1100a500b6bd8536f6e659ecd2352479ffca42986f0b28c3fddf3", func := "example.com/lichen/lichen/zzlaws_pkg_logline_b1.FnQueueWriteStringAgreesWithWrite", spec := "fnQueueWriteStringAgreesWithWrite", inPlace := ["(*internal/sync.Mutex).Lock", "internal/race.Disable", "sync/atomic.CompareAndSwapInt32", "internal/race.Enable", "internal/race.Acquire", "(*internal/sync.Mutex).lockSlow", "internal/sync.runtime_canSpin", "internal/sync.runtime_doSpin", "internal/sync.throw", "internal/sync.runtime_nanotime", "internal/sync.runtime_SemacquireMutex", "sync/atomic.AddInt32", "(*internal/sync.Mutex).Unlock", "internal/race.ReleaseMerge", "(*internal/sync.Mutex).unlockSlow", "internal/sync.fatal", "internal/sync.runtime_Semrelease"], apart := false }
def FnQueueWriteStringAgreesWithWriteSaid : Prop := fnQueueWriteStringAgreesWithWriteRow.holds Try.pinned (OpenSpec.ofChange fnQueueWriteStringAgreesWithWriteSpec)

/-- ITS FALSE NEIGHBOUR: 'it returns false'. Refute it at one input. -/
def fnQueueWriteStringAgreesWithWriteWrong : ChangeSpec := { name := "fnQueueWriteStringAgreesWithWrite", fn := fun _ => fun
  | [d] => { results := [.lit (.bool false)], args := [d] }
  | _ => none }
def FnQueueWriteStringAgreesWithWriteWrongFalsely : Prop := fnQueueWriteStringAgreesWithWriteRow.holds Try.pinned (OpenSpec.ofChange fnQueueWriteStringAgreesWithWriteWrong)

/-- 'zzlaws_pkg_logline_b1.FnSignalLeavesOneToken': WHATEVER THE INPUT: true; the input reads as it did. -/
def fnSignalLeavesOneTokenSpec : ChangeSpec := { name := "fnSignalLeavesOneToken", fn := fun _ => fun
  | [d] => { results := [.lit (.bool true)], args := [d] }
  | _ => none }
def fnSignalLeavesOneTokenRow : OpenClaim := { program := "qxb6612260a", sum := "ec65d06159d1100a500b6bd8536f6e659ecd2352479ffca42986f0b28c3fddf3", func := "example.com/lichen/lichen/zzlaws_pkg_logline_b1.FnSignalLeavesOneToken", spec := "fnSignalLeavesOneToken", apart := false }
def FnSignalLeavesOneTokenSaid : Prop := fnSignalLeavesOneTokenRow.holds Try.pinned (OpenSpec.ofChange fnSignalLeavesOneTokenSpec)

/-- ITS FALSE NEIGHBOUR: 'it returns false'. Refute it at one input. -/
def fnSignalLeavesOneTokenWrong : ChangeSpec := { name := "fnSignalLeavesOneToken", fn := fun _ => fun
  | [d] => { results := [.lit (.bool false)], args := [d] }
  | _ => none }
def FnSignalLeavesOneTokenWrongFalsely : Prop := fnSignalLeavesOneTokenRow.holds Try.pinned (OpenSpec.ofChange fnSignalLeavesOneTokenWrong)

/-- 'zzlaws_pkg_logline_b1.FnSignalLeavesHeldAlone': WHATEVER THE INPUT: true; the input reads as it did. -/
def fnSignalLeavesHeldAloneSpec : ChangeSpec := { name := "fnSignalLeavesHeldAlone", fn := fun _ => fun
  | [d1, d2] => { results := [.lit (.bool true)], args := [d1, d2] }
  | _ => none }
def fnSignalLeavesHeldAloneRow : OpenClaim := { program := "qxb6612260a", sum := "ec65d06159d1100a500b6bd8536f6e659ecd2352479ffca42986f0b28c3fddf3", func := "example.com/lichen/lichen/zzlaws_pkg_logline_b1.FnSignalLeavesHeldAlone", spec := "fnSignalLeavesHeldAlone", inPlace := ["(*internal/sync.Mutex).Lock", "internal/race.Disable", "sync/atomic.CompareAndSwapInt32", "internal/race.Enable", "internal/race.Acquire", "(*internal/sync.Mutex).lockSlow", "internal/sync.runtime_canSpin", "internal/sync.runtime_doSpin", "internal/sync.throw", "internal/sync.runtime_nanotime", "internal/sync.runtime_SemacquireMutex", "sync/atomic.AddInt32", "(*internal/sync.Mutex).Unlock", "internal/race.ReleaseMerge", "(*internal/sync.Mutex).unlockSlow", "internal/sync.fatal", "internal/sync.runtime_Semrelease"], apart := false }
def FnSignalLeavesHeldAloneSaid : Prop := fnSignalLeavesHeldAloneRow.holds Try.pinned (OpenSpec.ofChange fnSignalLeavesHeldAloneSpec)

/-- ITS FALSE NEIGHBOUR: 'it returns false'. Refute it at one input. -/
def fnSignalLeavesHeldAloneWrong : ChangeSpec := { name := "fnSignalLeavesHeldAlone", fn := fun _ => fun
  | [d1, d2] => { results := [.lit (.bool false)], args := [d1, d2] }
  | _ => none }
def FnSignalLeavesHeldAloneWrongFalsely : Prop := fnSignalLeavesHeldAloneRow.holds Try.pinned (OpenSpec.ofChange fnSignalLeavesHeldAloneWrong)

end Rows
end Go.Proofs.Qxb6612260a
