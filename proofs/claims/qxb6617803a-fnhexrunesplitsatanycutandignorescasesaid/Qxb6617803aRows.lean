/-
  No cell of these rows narrows 'for every input' (looked for: loops, veiled, ifaces, maps, wideKeys, modest, calm, conditions, laid).
  DERIVED. THE GIVEN ROWS OF THIS SEAT. 2 by the template 'for every input the law returns true; each argument reads behind the call as it read before'; 0 by the template 'total and deterministic' (their statements: Qxb6617803aTotals.lean).
  GIVEN WITH THE SEED: the statements are not yours to turn. If you find one false, say at which input.
  Laid BY PROGRAM, IN A SANDBOX (cutbox-rows.mjs): the forced cells as the released guide's own fill.sh prints them over the translation 35fd5310d979a961… (all of the seat's roots in one cut). By AI agents, Wed Nov 11 2026. No macro, syntax, notation, axiom, sorry.
-/
import Derived.Test.Qxb6617803aChecked
import GoSem.Claim
import GoSem.ClaimJoined
import GoSem.ClaimMapViews
import Derived.JoinedTies
import Derived.KernelRfl
namespace Go.Proofs.Qxb6617803a
/- THE CELL 'sum', in the pinned program and in every row, IS THE sha256 OF THE DUMP (.gsa) THAT Qxb6617803aProg.lean LOADS. Nothing in Lean hashes anything: it is a label: what it is worth is what the hold of that sum in a sandbox is worth. -/
noncomputable def Try.pinned : Pinned := { name := "qxb6617803a", sum := "35fd5310d979a9615768d31e486e81a327774bcca146c97c86df159dc9ee5182", checked := Try.checked }
namespace Rows
def none {H : Type} : Left H := { results := [], args := [] }

/-- 'zzlaws_root_b1.FnHexRuneMatchesPositionalValue': WHATEVER THE INPUT: true; the input reads as it did. -/
def fnHexRuneMatchesPositionalValueSpec : ChangeSpec := { name := "fnHexRuneMatchesPositionalValue", fn := fun _ => fun
  | [d] => { results := [.lit (.bool true)], args := [d] }
  | _ => none }
def fnHexRuneMatchesPositionalValueRow : OpenClaim := { program := "qxb6617803a", sum := "35fd5310d979a9615768d31e486e81a327774bcca146c97c86df159dc9ee5182", func := "example.com/sagaline/sagaline/zzlaws_root_b1.FnHexRuneMatchesPositionalValue", spec := "fnHexRuneMatchesPositionalValue", apart := false }
def FnHexRuneMatchesPositionalValueSaid : Prop := fnHexRuneMatchesPositionalValueRow.holds Try.pinned (OpenSpec.ofChange fnHexRuneMatchesPositionalValueSpec)

/-- ITS FALSE NEIGHBOUR: 'it returns false'. Refute it at one input. -/
def fnHexRuneMatchesPositionalValueWrong : ChangeSpec := { name := "fnHexRuneMatchesPositionalValue", fn := fun _ => fun
  | [d] => { results := [.lit (.bool false)], args := [d] }
  | _ => none }
def FnHexRuneMatchesPositionalValueWrongFalsely : Prop := fnHexRuneMatchesPositionalValueRow.holds Try.pinned (OpenSpec.ofChange fnHexRuneMatchesPositionalValueWrong)

/-- 'zzlaws_root_b1.FnHexRuneSplitsAtAnyCutAndIgnoresCase': WHATEVER THE INPUT: true; the input reads as it did. -/
def fnHexRuneSplitsAtAnyCutAndIgnoresCaseSpec : ChangeSpec := { name := "fnHexRuneSplitsAtAnyCutAndIgnoresCase", fn := fun _ => fun
  | [d1, d2, d3] => { results := [.lit (.bool true)], args := [d1, d2, d3] }
  | _ => none }
def fnHexRuneSplitsAtAnyCutAndIgnoresCaseRow : OpenClaim := { program := "qxb6617803a", sum := "35fd5310d979a9615768d31e486e81a327774bcca146c97c86df159dc9ee5182", func := "example.com/sagaline/sagaline/zzlaws_root_b1.FnHexRuneSplitsAtAnyCutAndIgnoresCase", spec := "fnHexRuneSplitsAtAnyCutAndIgnoresCase", apart := false }
def FnHexRuneSplitsAtAnyCutAndIgnoresCaseSaid : Prop := fnHexRuneSplitsAtAnyCutAndIgnoresCaseRow.holds Try.pinned (OpenSpec.ofChange fnHexRuneSplitsAtAnyCutAndIgnoresCaseSpec)

/-- ITS FALSE NEIGHBOUR: 'it returns false'. Refute it at one input. -/
def fnHexRuneSplitsAtAnyCutAndIgnoresCaseWrong : ChangeSpec := { name := "fnHexRuneSplitsAtAnyCutAndIgnoresCase", fn := fun _ => fun
  | [d1, d2, d3] => { results := [.lit (.bool false)], args := [d1, d2, d3] }
  | _ => none }
def FnHexRuneSplitsAtAnyCutAndIgnoresCaseWrongFalsely : Prop := fnHexRuneSplitsAtAnyCutAndIgnoresCaseRow.holds Try.pinned (OpenSpec.ofChange fnHexRuneSplitsAtAnyCutAndIgnoresCaseWrong)

end Rows
end Go.Proofs.Qxb6617803a
