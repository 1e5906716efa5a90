/-
  No cell of these rows narrows 'for every input' (looked for: loops, veiled, ifaces, maps, wideKeys, modest, calm, conditions, laid).
  DERIVED. THE GIVEN ROWS OF THIS SEAT. 2 by the template 'for every input the law returns true; each argument reads behind the call as it read before'; 0 by the template 'total and deterministic' (their statements: Qxb6619235aTotals.lean).
  GIVEN WITH THE SEED: the statements are not yours to turn. If you find one false, say at which input.
  Laid BY PROGRAM, IN A SANDBOX (cutbox-rows.mjs): the forced cells as the released guide's own fill.sh prints them over the translation a9d5d465f9380a78… (all of the seat's roots in one cut). By AI agents, Wed Nov 11 2026. No macro, syntax, notation, axiom, sorry.
-/
import Derived.Test.Qxb6619235aChecked
import GoSem.Claim
import GoSem.ClaimJoined
import GoSem.ClaimMapViews
import Derived.JoinedTies
import Derived.KernelRfl
namespace Go.Proofs.Qxb6619235a
/- THE CELL 'sum', in the pinned program and in every row, IS THE sha256 OF THE DUMP (.gsa) THAT Qxb6619235aProg.lean LOADS. Nothing in Lean hashes anything: it is a label: what it is worth is what the hold of that sum in a sandbox is worth. -/
noncomputable def Try.pinned : Pinned := { name := "qxb6619235a", sum := "a9d5d465f9380a78977600d48fbf4a8fed007751eb8a955b2e0ddf48606a97fd", checked := Try.checked }
namespace Rows
def none {H : Type} : Left H := { results := [], args := [] }

/-- 'zzlaws_inflate_b1.FnTakeSplitAtAnyCut': WHATEVER THE INPUT: true; the input reads as it did. -/
def fnTakeSplitAtAnyCutSpec : ChangeSpec := { name := "fnTakeSplitAtAnyCut", fn := fun _ => fun
  | [d1, d2, d3, d4, d5, d6, d7] => { results := [.lit (.bool true)], args := [d1, d2, d3, d4, d5, d6, d7] }
  | _ => none }
def fnTakeSplitAtAnyCutRow : OpenClaim := { program := "qxb6619235a", sum := "a9d5d465f9380a78977600d48fbf4a8fed007751eb8a955b2e0ddf48606a97fd", func := "example.com/unifold/unifold/zzlaws_inflate_b1.FnTakeSplitAtAnyCut", spec := "fnTakeSplitAtAnyCut", apart := false }
def FnTakeSplitAtAnyCutSaid : Prop := fnTakeSplitAtAnyCutRow.holds Try.pinned (OpenSpec.ofChange fnTakeSplitAtAnyCutSpec)

/-- ITS FALSE NEIGHBOUR: 'it returns false'. Refute it at one input. -/
def fnTakeSplitAtAnyCutWrong : ChangeSpec := { name := "fnTakeSplitAtAnyCut", fn := fun _ => fun
  | [d1, d2, d3, d4, d5, d6, d7] => { results := [.lit (.bool false)], args := [d1, d2, d3, d4, d5, d6, d7] }
  | _ => none }
def FnTakeSplitAtAnyCutWrongFalsely : Prop := fnTakeSplitAtAnyCutRow.holds Try.pinned (OpenSpec.ofChange fnTakeSplitAtAnyCutWrong)

/-- 'zzlaws_inflate_b1.FnTakeBitByBitReadsLowestFirst': WHATEVER THE INPUT: true; the input reads as it did. -/
def fnTakeBitByBitReadsLowestFirstSpec : ChangeSpec := { name := "fnTakeBitByBitReadsLowestFirst", fn := fun _ => fun
  | [d1, d2, d3, d4, d5, d6] => { results := [.lit (.bool true)], args := [d1, d2, d3, d4, d5, d6] }
  | _ => none }
def fnTakeBitByBitReadsLowestFirstRow : OpenClaim := { program := "qxb6619235a", sum := "a9d5d465f9380a78977600d48fbf4a8fed007751eb8a955b2e0ddf48606a97fd", func := "example.com/unifold/unifold/zzlaws_inflate_b1.FnTakeBitByBitReadsLowestFirst", spec := "fnTakeBitByBitReadsLowestFirst", apart := false }
def FnTakeBitByBitReadsLowestFirstSaid : Prop := fnTakeBitByBitReadsLowestFirstRow.holds Try.pinned (OpenSpec.ofChange fnTakeBitByBitReadsLowestFirstSpec)

/-- ITS FALSE NEIGHBOUR: 'it returns false'. Refute it at one input. -/
def fnTakeBitByBitReadsLowestFirstWrong : ChangeSpec := { name := "fnTakeBitByBitReadsLowestFirst", fn := fun _ => fun
  | [d1, d2, d3, d4, d5, d6] => { results := [.lit (.bool false)], args := [d1, d2, d3, d4, d5, d6] }
  | _ => none }
def FnTakeBitByBitReadsLowestFirstWrongFalsely : Prop := fnTakeBitByBitReadsLowestFirstRow.holds Try.pinned (OpenSpec.ofChange fnTakeBitByBitReadsLowestFirstWrong)

end Rows
end Go.Proofs.Qxb6619235a
