/-
  No cell of these rows narrows 'for every input' (looked for: loops, veiled, ifaces, maps, wideKeys, modest, calm, conditions, laid).
  DERIVED. THE GIVEN ROWS OF THIS SEAT. 3 by the template 'for every input the law returns true; each argument reads behind the call as it read before'; 0 by the template 'total and deterministic' (their statements: Qxb6616935aTotals.lean).
  GIVEN WITH THE SEED: the statements are not yours to turn. If you find one false, say at which input.
  Laid BY PROGRAM, IN A SANDBOX (cutbox-rows.mjs): the forced cells as the released guide's own fill.sh prints them over the translation 45e4a977717f1195… (all of the seat's roots in one cut). By AI agents, Wed Nov 11 2026. No macro, syntax, notation, axiom, sorry.
-/
import Derived.Test.Qxb6616935aChecked
import GoSem.Claim
import GoSem.ClaimJoined
import GoSem.ClaimMapViews
import Derived.JoinedTies
import Derived.KernelRfl
namespace Go.Proofs.Qxb6616935a
/- THE CELL 'sum', in the pinned program and in every row, IS THE sha256 OF THE DUMP (.gsa) THAT Qxb6616935aProg.lean LOADS. Nothing in Lean hashes anything: it is a label: what it is worth is what the hold of that sum in a sandbox is worth. -/
noncomputable def Try.pinned : Pinned := { name := "qxb6616935a", sum := "45e4a977717f11950de85f40bd935d43073fb5c36de8db7b63bad96eb99aaad1", checked := Try.checked }
namespace Rows
def none {H : Type} : Left H := { results := [], args := [] }

/-- 'zzlaws_internal_store_b1.FnOfIsSipHash24UnderItsSecret': WHATEVER THE INPUT: true; the input reads as it did. -/
def fnOfIsSipHash24UnderItsSecretSpec : ChangeSpec := { name := "fnOfIsSipHash24UnderItsSecret", fn := fun _ => fun
  | [d1, d2, d3] => { results := [.lit (.bool true)], args := [d1, d2, d3] }
  | _ => none }
def fnOfIsSipHash24UnderItsSecretRow : OpenClaim := { program := "qxb6616935a", sum := "45e4a977717f11950de85f40bd935d43073fb5c36de8db7b63bad96eb99aaad1", func := "example.com/halyard/halyard/zzlaws_internal_store_b1.FnOfIsSipHash24UnderItsSecret", spec := "fnOfIsSipHash24UnderItsSecret", named := ["encoding/binary.LittleEndian"], apart := false }
def FnOfIsSipHash24UnderItsSecretSaid : Prop := fnOfIsSipHash24UnderItsSecretRow.holds Try.pinned (OpenSpec.ofChange fnOfIsSipHash24UnderItsSecretSpec)

/-- ITS FALSE NEIGHBOUR: 'it returns false'. Refute it at one input. -/
def fnOfIsSipHash24UnderItsSecretWrong : ChangeSpec := { name := "fnOfIsSipHash24UnderItsSecret", fn := fun _ => fun
  | [d1, d2, d3] => { results := [.lit (.bool false)], args := [d1, d2, d3] }
  | _ => none }
def FnOfIsSipHash24UnderItsSecretWrongFalsely : Prop := fnOfIsSipHash24UnderItsSecretRow.holds Try.pinned (OpenSpec.ofChange fnOfIsSipHash24UnderItsSecretWrong)

/-- 'zzlaws_internal_store_b1.FnFilledBoundsEachNodeOnePastItsGreatestKeptSeq': WHATEVER THE INPUT: true; the input reads as it did. -/
def fnFilledBoundsEachNodeOnePastItsGreatestKeptSeqSpec : ChangeSpec := { name := "fnFilledBoundsEachNodeOnePastItsGreatestKeptSeq", fn := fun _ => fun
  | [d1, d2, d3, d4] => { results := [.lit (.bool true)], args := [d1, d2, d3, d4] }
  | _ => none }
def fnFilledBoundsEachNodeOnePastItsGreatestKeptSeqRow : OpenClaim := { program := "qxb6616935a", sum := "45e4a977717f11950de85f40bd935d43073fb5c36de8db7b63bad96eb99aaad1", func := "example.com/halyard/halyard/zzlaws_internal_store_b1.FnFilledBoundsEachNodeOnePastItsGreatestKeptSeq", spec := "fnFilledBoundsEachNodeOnePastItsGreatestKeptSeq", inPlace := ["(*internal/sync.Mutex).Lock", "internal/race.Disable", "sync/atomic.CompareAndSwapInt32", "internal/race.Enable", "internal/race.Acquire", "(*internal/sync.Mutex).lockSlow", "internal/sync.runtime_canSpin", "internal/sync.runtime_doSpin", "internal/sync.throw", "internal/sync.runtime_nanotime", "internal/sync.runtime_SemacquireMutex", "sync/atomic.AddInt32", "(*internal/sync.Mutex).Unlock", "internal/race.ReleaseMerge", "(*internal/sync.Mutex).unlockSlow", "internal/sync.fatal", "internal/sync.runtime_Semrelease"], apart := false }
def FnFilledBoundsEachNodeOnePastItsGreatestKeptSeqSaid : Prop := fnFilledBoundsEachNodeOnePastItsGreatestKeptSeqRow.holds Try.pinned (OpenSpec.ofChange fnFilledBoundsEachNodeOnePastItsGreatestKeptSeqSpec)

/-- ITS FALSE NEIGHBOUR: 'it returns false'. Refute it at one input. -/
def fnFilledBoundsEachNodeOnePastItsGreatestKeptSeqWrong : ChangeSpec := { name := "fnFilledBoundsEachNodeOnePastItsGreatestKeptSeq", fn := fun _ => fun
  | [d1, d2, d3, d4] => { results := [.lit (.bool false)], args := [d1, d2, d3, d4] }
  | _ => none }
def FnFilledBoundsEachNodeOnePastItsGreatestKeptSeqWrongFalsely : Prop := fnFilledBoundsEachNodeOnePastItsGreatestKeptSeqRow.holds Try.pinned (OpenSpec.ofChange fnFilledBoundsEachNodeOnePastItsGreatestKeptSeqWrong)

/-- 'zzlaws_internal_store_b1.FnFilledForgetsEveryPartsWrittenKeys': WHATEVER THE INPUT: true; the input reads as it did. -/
def fnFilledForgetsEveryPartsWrittenKeysSpec : ChangeSpec := { name := "fnFilledForgetsEveryPartsWrittenKeys", fn := fun _ => fun
  | [d1, d2, d3, d4] => { results := [.lit (.bool true)], args := [d1, d2, d3, d4] }
  | _ => none }
def fnFilledForgetsEveryPartsWrittenKeysRow : OpenClaim := { program := "qxb6616935a", sum := "45e4a977717f11950de85f40bd935d43073fb5c36de8db7b63bad96eb99aaad1", func := "example.com/halyard/halyard/zzlaws_internal_store_b1.FnFilledForgetsEveryPartsWrittenKeys", spec := "fnFilledForgetsEveryPartsWrittenKeys", inPlace := ["(*internal/sync.Mutex).Lock", "internal/race.Disable", "sync/atomic.CompareAndSwapInt32", "internal/race.Enable", "internal/race.Acquire", "(*internal/sync.Mutex).lockSlow", "internal/sync.runtime_canSpin", "internal/sync.runtime_doSpin", "internal/sync.throw", "internal/sync.runtime_nanotime", "internal/sync.runtime_SemacquireMutex", "sync/atomic.AddInt32", "(*internal/sync.Mutex).Unlock", "internal/race.ReleaseMerge", "(*internal/sync.Mutex).unlockSlow", "internal/sync.fatal", "internal/sync.runtime_Semrelease"], apart := false }
def FnFilledForgetsEveryPartsWrittenKeysSaid : Prop := fnFilledForgetsEveryPartsWrittenKeysRow.holds Try.pinned (OpenSpec.ofChange fnFilledForgetsEveryPartsWrittenKeysSpec)

/-- ITS FALSE NEIGHBOUR: 'it returns false'. Refute it at one input. -/
def fnFilledForgetsEveryPartsWrittenKeysWrong : ChangeSpec := { name := "fnFilledForgetsEveryPartsWrittenKeys", fn := fun _ => fun
  | [d1, d2, d3, d4] => { results := [.lit (.bool false)], args := [d1, d2, d3, d4] }
  | _ => none }
def FnFilledForgetsEveryPartsWrittenKeysWrongFalsely : Prop := fnFilledForgetsEveryPartsWrittenKeysRow.holds Try.pinned (OpenSpec.ofChange fnFilledForgetsEveryPartsWrittenKeysWrong)

end Rows
end Go.Proofs.Qxb6616935a
