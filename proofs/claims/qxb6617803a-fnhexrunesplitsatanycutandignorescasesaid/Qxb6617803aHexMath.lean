/-
  THE PLAIN MATHEMATICS OF BOTH LAWS ON hexRune: no Go in sight.
-/
import Derived.WalkKit
import Derived.Laws.BitsAllLaws
namespace Go.Proofs.Qxb6617803a
open Go.RowKit

/-- Is the byte a hexadecimal digit? -/
def isHex (c : Int) : Bool := decide (48 ≤ c ∧ c ≤ 57) || decide (97 ≤ c ∧ c ≤ 102) || decide (65 ≤ c ∧ c ≤ 70)
/-- The digit's value (0 for what is none). -/
def hexVal (c : Int) : Int := if 48 ≤ c ∧ c ≤ 57 then c - 48 else if 97 ≤ c ∧ c ≤ 102 then c - 87 else if 65 ≤ c ∧ c ≤ 70 then c - 55 else 0
/-- The number that a row of digits writes. -/
def num (l : List Int) : Int := l.foldl (fun n c => n * 16 + hexVal c) 0

theorem hexVal_bd (c : Int) : 0 ≤ hexVal c ∧ hexVal c < 16 := by
  unfold hexVal
  split
  · omega
  split
  · omega
  split <;> omega

theorem num_snoc (l : List Int) (c : Int) : num (l ++ [c]) = num l * 16 + hexVal c := by simp [num, List.foldl_append]

theorem num_append (a b : List Int) : num (a ++ b) = num a * 16 ^ b.length + num b := by
  induction b generalizing a with
  | nil => simp [num]
  | cons c b ih =>
    have e : a ++ c :: b = (a ++ [c]) ++ b := by simp
    have e1 : c :: b = [c] ++ b := rfl
    rw [e, ih, num_snoc, e1, ih [c]]
    have e2 : num [c] = hexVal c := by simp [num]
    rw [e2, List.length_append, List.length_singleton, Nat.add_comm 1, Int.pow_succ, Int.add_mul, Int.mul_assoc, Int.mul_comm 16, Int.add_assoc]

theorem or_i32 (x y : Int) : bits .or .i32 x y = wrap32 (((x % 4294967296).toNat ||| (y % 4294967296).toNat : Nat) : Int) := by
  show IntKind.i32.wrap ((BitVec.ofInt 32 x ||| BitVec.ofInt 32 y).toNat : Int) = _
  rw [BitVec.toNat_or, BitVec.toNat_ofInt, BitVec.toNat_ofInt, IntKind.wrap_i32]
  unfold wrap32
  simp only [Nat.reducePow, Int.cast_ofNat_Int]

theorem or_step (n d : Int) (h0 : 0 ≤ d) (h1 : d < 16) : bits .or .i32 (wrap32 (wrap32 n * 16)) d = wrap32 (n * 16 + d) := by
  rw [or_i32]
  have e : (wrap32 (wrap32 n * 16) % 4294967296).toNat ||| (d % 4294967296).toNat = (wrap32 (wrap32 n * 16) % 4294967296).toNat + (d % 4294967296).toNat :=
    nat_join 4 _ _ (by unfold wrap32; omega) (by omega)
  rw [e]
  unfold wrap32
  omega

/-! ### the first law: the digits summed from the right -/
theorem take_snoc' (l : List Int) (k : Nat) (h : k < l.length) : l.take (k + 1) = l.take k ++ [l.getD k 0] := by
  rw [List.take_succ_eq_append_getElem h]; simp [h]
theorem drop_cons' (l : List Int) (k : Nat) (h : k < l.length) : l.drop k = l.getD k 0 :: l.drop (k + 1) := by
  rw [List.drop_eq_getElem_cons h]; simp [h]
theorem num_take_succ (l : List Int) (k : Nat) (h : k < l.length) : num (l.take (k + 1)) = num (l.take k) * 16 + hexVal (l.getD k 0) := by
  rw [take_snoc' l k h, num_snoc]
theorem num_drop (l : List Int) (k : Nat) (h : k < l.length) : num (l.drop k) = hexVal (l.getD k 0) * 16 ^ (l.length - (k + 1)) + num (l.drop (k + 1)) := by
  rw [drop_cons' l k h]
  have e : ∀ (c : Int) (m : List Int), num (c :: m) = hexVal c * 16 ^ m.length + num m := fun c m => by
    have := num_append [c] m
    simpa [num] using this
  rw [e, List.length_drop]
/-- The round: a digit more, from the right. -/
theorem want_step (l : List Int) (k : Nat) (h : k < l.length) (q : Int) (hq : q = 16 ^ (l.length - (k + 1)) % 4294967296) :
    (num (l.drop (k + 1)) % 4294967296 + hexVal (l.getD k 0) * q % 4294967296) % 4294967296 = num (l.drop k) % 4294967296 := by
  subst hq
  rw [num_drop l k h, Int.mul_emod, Int.emod_emod_of_dvd _ (Int.dvd_refl _), ← Int.mul_emod, ← Int.add_emod, Int.add_comm]
theorem pw_step (m : Nat) : (16 ^ m % 4294967296 : Int) * 16 % 4294967296 = 16 ^ (m + 1) % 4294967296 := by
  rw [Int.pow_succ, Int.mul_emod, Int.emod_emod_of_dvd _ (Int.dvd_refl _), ← Int.mul_emod]
/-- The way out of the loop with digits left: all that is left lies beyond 32 bits. -/
theorem want_end (l : List Int) (k : Nat) (hp : (16 ^ (l.length - k) % 4294967296 : Int) = 0) : num l % 4294967296 = num (l.drop k) % 4294967296 := by
  have e : num l = num (l.take k) * 16 ^ (l.length - k) + num (l.drop k) := by
    have := num_append (l.take k) (l.drop k)
    rwa [List.take_append_drop, List.length_drop] at this
  rw [e, Int.add_emod, Int.mul_emod, hp, Int.mul_zero, Int.zero_emod, Int.zero_add, Int.emod_emod_of_dvd _ (Int.dvd_refl _)]
theorem u32_wrap32 (n : Int) : wrap32 n % 4294967296 = n % 4294967296 := by unfold wrap32; omega
end Go.Proofs.Qxb6617803a
