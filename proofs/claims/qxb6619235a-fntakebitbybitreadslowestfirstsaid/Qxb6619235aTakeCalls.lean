/-
  THE CALLEES OF BOTH LAWS ON take, each by a contract of its own.
-/
import Derived.Test.Qxb6619235aRows
import Derived.WalkKit
import Derived.WalkSpells
import Derived.Deep.QuietTactic
import Derived.BigQuiet
import Derived.WalkSmall
import Derived.LaidEqlPtr
import Derived.Test.Qxb6619235aTakeMath
namespace Go.Proofs.Qxb6619235a
open Go.RowKit
set_option linter.unusedVariables false

theorem ret_bool {a b : Bool} (h : a = b) : Ending.returned (.bool a) = .returned (.bool b) := by rw [h]
theorem ret_int {k : IntKind} {a b : Int} (h : a = b) : Ending.returned (.int k a) = .returned (.int k b) := by rw [h]

theorem take_any (g : Nat) (b n : Int) (k : Nat) (w : World) (hb0 : 0 ≤ b) (hb1 : b < 18446744073709551616) (hk : k ≤ 32) (hn0 : (k : Int) ≤ n) (hn1 : n ≤ 64)
    (c2 : w.cell? ⟨g, 2, none⟩ = some (.int .u64 b)) (c3 : w.cell? ⟨g, 3, none⟩ = some (.int .u64 n)) (f2 : w.frozen? ⟨g, 2, none⟩ = false) (f3 : w.frozen? ⟨g, 3, none⟩ = false) :
    Calls Try.prog 9 #[.pointer (some ⟨g, 0, none⟩), .int .u64 k] w fun e w' => e = .returned (.int .u32 (b % 2 ^ k)) ∧ w' = (w.setCell ⟨g, 2, none⟩ (.int .u64 (b / 2 ^ k))).setCell ⟨g, 3, none⟩ (.int .u64 (n - k)) := by
  go_enter Try.func9, Try.ntmps9
  go_wp2
  go_ret
  exact ⟨ret_int (take_val b k hb0 hb1 hk), rfl⟩

set_option maxHeartbeats 800000 in
theorem zzTake_any (a : Option Addr) (len cap : Nat) (pos b n over : Int) (k : Nat) (w : World) (hb0 : 0 ≤ b) (hb1 : b < 18446744073709551616) (hk : k ≤ 32) (hn0 : (k : Int) ≤ n) (hn1 : n ≤ 64) :
    Calls Try.prog 6 #[.slice a len cap, .int .i64 pos, .int .u64 b, .int .u64 n, .int .i64 over, .int .u64 k] w fun e w' =>
      e = .returned (.tuple #[.int .u32 (b % 2 ^ k), .slice a len cap, .int .i64 pos, .int .u64 (b / 2 ^ k), .int .u64 (n - k), .int .i64 over]) ∧ Below w.heap.size w w' := by
  go_enter Try.func6, Try.ntmps6
  go_wp2_with (go_at_call 9; refine (take_any _ b n k _ hb0 hb1 hk hn0 hn1 (by simp [go_sem]) (by simp [go_sem]) (by simp [go_sem]) (by simp [go_sem])).mono ?_; rintro e w' ⟨rfl, hw⟩; subst w')
  go_quiet (fail)
  go_wp2
  exact bodyPost_ret (v := .tuple #[.int .u32 (b % 2 ^ k), .slice a len cap, .int .i64 pos, .int .u64 (b / 2 ^ k), .int .u64 (n - k), .int .i64 over]) (by simp [results, Try.results6, go_sem]) rfl ⟨rfl, below_drewN ((Below.refl _ _).alloc (Nat.le_refl _) _) _⟩

theorem info5 : (Try.prog.info? 5).map (fun i => (i.zero, i.size, i.bytes)) = some (some (.int .u8 0), 1, 1) := by kernel_rfl
theorem size5 : (Try.prog.info? 5).map (·.size) = some 1 := by kernel_rfl

theorem same_any (a : Option Addr) (len cap : Nat) (w : World) (h : 0 < len → ∃ b off, a = some ⟨b, off, none⟩) (hm : len ≤ 1048576) :
    Calls Try.prog 7 #[.slice a len cap, .slice a len cap] w fun e w' => e = .returned (.bool true) ∧ Below w.heap.size w w' := by
  have heq := fun (w : World) (a : Option Addr) (n c : Nat) => Lib.run_eql_slice_nil (P := Try.prog) w 22 5 a n c 0 0 Try.underlying22
  obtain ⟨i0, hi, _⟩ := info_parts info5
  have hpp := fun (w : World) (a : Addr) => run_eql_ptr_same (P := Try.prog) w a Try.underlying35 hi
  by_cases h0 : 0 < len
  · obtain ⟨b, off, rfl⟩ := h h0
    clear h
    go_enter Try.func7, Try.ntmps7
    go_wp2
    go_quiet (fail)
    go_wp2
    go_ret
    exact ⟨rfl, below_drewN (Below.refl _ _) _⟩
  · obtain rfl : len = 0 := by omega
    clear h
    go_enter Try.func7, Try.ntmps7
    go_wp2
    go_ret
    exact ⟨rfl, Below.refl _ _⟩

theorem bytes3_any (a : Option Addr) (len cap : Nat) (x1 x2 x3 x4 x5 x6 : Int) (hm : len ≤ maxLen) (w : World) : Calls Try.prog 5 #[.slice a len cap, .int .i64 x1, .int .u64 x2, .int .u64 x3, .int .i64 x4, .int .u64 x5, .int .u64 x6] w fun e w' => e = .returned (.bool (decide (len ≤ 1048576))) ∧ w' = w := by
  unfold maxLen at hm
  by_cases h : len ≤ 1048576
  · go_enter Try.func5, Try.ntmps5
    go_wp2
    go_ret
    exact ⟨ret_bool (by simp [h]), rfl⟩
  · have h' : 1048576 < len := by omega
    go_enter Try.func5, Try.ntmps5
    go_wp2
    go_ret
    exact ⟨ret_bool (by simp; omega), rfl⟩
theorem bytes4_any (a : Option Addr) (len cap : Nat) (x1 x2 x3 x4 x5 : Int) (hm : len ≤ maxLen) (w : World) : Calls Try.prog 8 #[.slice a len cap, .int .i64 x1, .int .u64 x2, .int .u64 x3, .int .i64 x4, .int .u64 x5] w fun e w' => e = .returned (.bool (decide (len ≤ 1048576))) ∧ w' = w := by
  unfold maxLen at hm
  by_cases h : len ≤ 1048576
  · go_enter Try.func8, Try.ntmps8
    go_wp2
    go_ret
    exact ⟨ret_bool (by simp [h]), rfl⟩
  · have h' : 1048576 < len := by omega
    go_enter Try.func8, Try.ntmps8
    go_wp2
    go_ret
    exact ⟨ret_bool (by simp; omega), rfl⟩
end Go.Proofs.Qxb6619235a
