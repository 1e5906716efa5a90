/-
  THE PLAIN MATHEMATICS OF BOTH LAWS ON take: no Go in sight.
-/
import Derived.WalkKit
import Derived.Laws.BitsAllLaws
namespace Go.Proofs.Qxb6619235a
open Go.RowKit

theorem pow_pos' (k : Nat) : (0 : Int) < 2 ^ k := Int.pow_pos (by decide)
theorem pow_le_of {j k : Nat} (h : j ≤ k) : (2 : Int) ^ j ≤ 2 ^ k := by
  obtain ⟨d, rfl⟩ := Nat.le.dest h
  rw [Int.pow_add]
  have h1 := pow_pos' d
  have h2 := pow_pos' j
  have : (2 : Int) ^ j * 1 ≤ 2 ^ j * 2 ^ d := Int.mul_le_mul_of_nonneg_left (by omega) (by omega)
  omega
theorem cast_pow (k : Nat) : ((2 ^ k : Nat) : Int) = 2 ^ k := by norm_cast
theorem pow32 : (2 : Int) ^ 32 = 4294967296 := by decide
theorem pow64 : (2 : Int) ^ 64 = 18446744073709551616 := by decide

theorem wrap_u64_in (x : Int) (h0 : 0 ≤ x) (h1 : x < 18446744073709551616) : IntKind.u64.wrap x = x := by rw [IntKind.wrap_u64]; omega
theorem wrap_u32_in (x : Int) (h0 : 0 ≤ x) (h1 : x < 4294967296) : IntKind.u32.wrap x = x := by rw [IntKind.wrap_u32']; omega

theorem mask_u64 (b : Int) (k : Nat) (h0 : 0 ≤ b) (h1 : b < 18446744073709551616) (hk : k ≤ 63) : bits .and .u64 b (2 ^ k - 1) = b % 2 ^ k := by
  have hp := pow_pos' k
  have hp64 : (2 : Int) ^ k < 18446744073709551616 := by rw [← pow64]; have := pow_le_of hk; have : (2 : Int) ^ 63 < 2 ^ 64 := by decide
                                                         omega
  rw [u64_and b (2 ^ k - 1) h0 h1 (by omega) (by omega)]
  have e : ((2 : Int) ^ k - 1).toNat = 2 ^ k - 1 := by
    have := cast_pow k
    omega
  rw [e, Nat.and_two_pow_sub_one_eq_mod]
  have e2 : (b.toNat : Int) = b := Int.toNat_of_nonneg h0
  rw [Int.natCast_emod, e2, cast_pow]

theorem take_val (b : Int) (k : Nat) (h0 : 0 ≤ b) (h1 : b < 18446744073709551616) (hk : k ≤ 32) :
    bits .and .u64 b (IntKind.u64.wrap (IntKind.u64.wrap (2 ^ k) - 1)) % 4294967296 = b % 2 ^ k := by
  have hp := pow_pos' k
  have hp32 : (2 : Int) ^ k ≤ 4294967296 := by rw [← pow32]; exact pow_le_of hk
  rw [wrap_u64_in (2 ^ k) (by omega) (by omega), wrap_u64_in _ (by omega) (by omega), mask_u64 b k h0 h1 (by omega)]
  have h2 := Int.emod_nonneg b (show (2 : Int) ^ k ≠ 0 by omega)
  have h3 := Int.emod_lt_of_pos b hp
  omega

/-- 'low | high << k' where low < 2^k, within 64 bits. -/
theorem join_u64 (x y : Int) (k : Nat) (hx0 : 0 ≤ x) (hx : x < 2 ^ k) (hy0 : 0 ≤ y) (hxy : x + y * 2 ^ k < 18446744073709551616) : bits .or .u64 x (y * 2 ^ k) = x + y * 2 ^ k := by
  have hp := pow_pos' k
  have hy2 : 0 ≤ y * 2 ^ k := Int.mul_nonneg hy0 (by omega)
  rw [u64_or x (y * 2 ^ k) hx0 (by omega) hy2 (by omega)]
  have e : (y * 2 ^ k).toNat = y.toNat * 2 ^ k := by
    have h1 : ((y.toNat * 2 ^ k : Nat) : Int) = y * 2 ^ k := by rw [Int.natCast_mul, Int.toNat_of_nonneg hy0, cast_pow]
    omega
  rw [e, Nat.or_comm, nat_join k (y.toNat * 2 ^ k) x.toNat (by simp) ?_]
  · rw [Int.natCast_add, Int.natCast_mul, Int.toNat_of_nonneg hy0, Int.toNat_of_nonneg hx0, Int.add_comm, cast_pow]
  · have := cast_pow k
    omega
theorem join_u32 (x y : Int) (k : Nat) (hx0 : 0 ≤ x) (hx : x < 2 ^ k) (hy0 : 0 ≤ y) (hxy : x + y * 2 ^ k < 4294967296) : bits .or .u32 x (y * 2 ^ k) = x + y * 2 ^ k := by
  have hp := pow_pos' k
  have hy2 : 0 ≤ y * 2 ^ k := Int.mul_nonneg hy0 (by omega)
  rw [u32_or x (y * 2 ^ k) hx0 (by omega) hy2 (by omega)]
  have e : (y * 2 ^ k).toNat = y.toNat * 2 ^ k := by
    have h1 : ((y.toNat * 2 ^ k : Nat) : Int) = y * 2 ^ k := by rw [Int.natCast_mul, Int.toNat_of_nonneg hy0, cast_pow]
    omega
  rw [e, Nat.or_comm, nat_join k (y.toNat * 2 ^ k) x.toNat (by simp) ?_]
  · rw [Int.natCast_add, Int.natCast_mul, Int.toNat_of_nonneg hy0, Int.toNat_of_nonneg hx0, Int.add_comm, cast_pow]
  · have := cast_pow k
    omega

theorem split_div (b : Int) (k : Nat) : b % 2 ^ k + b / 2 ^ k * 2 ^ k = b := by
  have := Int.emod_add_mul_ediv b (2 ^ k)
  rw [Int.mul_comm (b / 2 ^ k)]; exact this

theorem div_div (b : Int) (a c : Nat) : b / 2 ^ a / 2 ^ c = b / 2 ^ (a + c) := by
  rw [Int.pow_add, Int.ediv_ediv_of_nonneg (by have := pow_pos' a; omega)]

theorem mod_split (b : Int) (a c : Nat) : b % 2 ^ a + b / 2 ^ a % 2 ^ c * 2 ^ a = b % 2 ^ (a + c) := by
  have h1 := split_div b a
  have h2 := split_div (b / 2 ^ a) c
  have h3 := split_div b (a + c)
  rw [div_div] at h2
  have h4 : b / 2 ^ a * 2 ^ a = b / 2 ^ a % 2 ^ c * 2 ^ a + b / 2 ^ (a + c) * 2 ^ (a + c) := by
    rw [← h2, Int.add_mul, Int.mul_assoc, h2, ← Int.pow_add, Nat.add_comm c a]
  omega

theorem high_zero (b : Int) (k : Nat) (h0 : 0 ≤ b) (h1 : b < 18446744073709551616) (hk : k ≤ 64) : b / 2 ^ k / 2 ^ (64 - k) = 0 := by
  rw [div_div, show k + (64 - k) = 64 by omega, pow64]
  exact Int.ediv_eq_zero_of_lt h0 h1
end Go.Proofs.Qxb6619235a
