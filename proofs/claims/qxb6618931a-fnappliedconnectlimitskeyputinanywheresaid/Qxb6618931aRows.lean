/-
  No cell of these rows narrows 'for every input' (looked for: loops, veiled, ifaces, maps, wideKeys, modest, calm, conditions, laid).
  DERIVED. THE GIVEN ROWS OF THIS SEAT. 1 by the template 'for every input the law returns true; each argument reads behind the call as it read before'; 0 by the template 'total and deterministic' (their statements: Qxb6618931aTotals.lean).
  GIVEN WITH THE SEED: the statements are not yours to turn. If you find one false, say at which input.
  Laid BY PROGRAM, IN A SANDBOX (cutbox-rows.mjs): the forced cells as the released guide's own fill.sh prints them over the translation cdb92e97febf48c7… (all of the seat's roots in one cut). By AI agents, Wed Nov 11 2026. No macro, syntax, notation, axiom, sorry.
-/
import Derived.Test.Qxb6618931aChecked
import GoSem.Claim
import GoSem.ClaimJoined
import GoSem.ClaimMapViews
import Derived.JoinedTies
import Derived.KernelRfl
namespace Go.Proofs.Qxb6618931a
/- THE CELL 'sum', in the pinned program and in every row, IS THE sha256 OF THE DUMP (.gsa) THAT Qxb6618931aProg.lean LOADS. Nothing in Lean hashes anything: it is a label: what it is worth is what the hold of that sum in a sandbox is worth. -/
noncomputable def Try.pinned : Pinned := { name := "qxb6618931a", sum := "cdb92e97febf48c74a2a8612ea7d46e814901ca66acf5f8b572d5a58639e9ea8", checked := Try.checked }
namespace Rows
def none {H : Type} : Left H := { results := [], args := [] }

/-- 'zzlaws_root_b1.FnAppliedConnectLimitsKeyPutInAnywhere': WHATEVER THE INPUT: true; the input reads as it did. -/
def fnAppliedConnectLimitsKeyPutInAnywhereSpec : ChangeSpec := { name := "fnAppliedConnectLimitsKeyPutInAnywhere", fn := fun _ => fun
  | [d1, d2, d3, d4, d5] => { results := [.lit (.bool true)], args := [d1, d2, d3, d4, d5] }
  | _ => none }
def fnAppliedConnectLimitsKeyPutInAnywhereRow : OpenClaim := { program := "qxb6618931a", sum := "cdb92e97febf48c74a2a8612ea7d46e814901ca66acf5f8b572d5a58639e9ea8", func := "example.com/keys-to-claims/keys-to-claims/zzlaws_root_b1.FnAppliedConnectLimitsKeyPutInAnywhere", spec := "fnAppliedConnectLimitsKeyPutInAnywhere", unfollowed := true, recurses := true, apart := false }
def FnAppliedConnectLimitsKeyPutInAnywhereSaid : Prop := fnAppliedConnectLimitsKeyPutInAnywhereRow.holds Try.pinned (OpenSpec.ofChange fnAppliedConnectLimitsKeyPutInAnywhereSpec)

/-- ITS FALSE NEIGHBOUR: 'it returns false'. Refute it at one input. -/
def fnAppliedConnectLimitsKeyPutInAnywhereWrong : ChangeSpec := { name := "fnAppliedConnectLimitsKeyPutInAnywhere", fn := fun _ => fun
  | [d1, d2, d3, d4, d5] => { results := [.lit (.bool false)], args := [d1, d2, d3, d4, d5] }
  | _ => none }
def FnAppliedConnectLimitsKeyPutInAnywhereWrongFalsely : Prop := fnAppliedConnectLimitsKeyPutInAnywhereRow.holds Try.pinned (OpenSpec.ofChange fnAppliedConnectLimitsKeyPutInAnywhereWrong)

end Rows
end Go.Proofs.Qxb6618931a
