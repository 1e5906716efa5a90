/-
  THE CALLEES OF BOTH LAWS ON hexRune, each by a contract of its own.
-/
import Derived.Test.Qxb6617803aRows
import Derived.WalkKit
import Derived.Test.Qxb6617803aHexMath
namespace Go.Proofs.Qxb6617803a
open Go.RowKit
set_option linter.unusedVariables false

theorem ret_bool {a b : Bool} (h : a = b) : Ending.returned (.bool a) = .returned (.bool b) := by rw [h]
theorem ret_int {k : IntKind} {a b : Int} (h : a = b) : Ending.returned (.int k a) = .returned (.int k b) := by rw [h]

/-- The slice at 'a' of 'len' bytes reads as the list l (of that length). -/
def RowAt (w : World) (a : Option Addr) (l : List Int) : Prop :=
  0 < l.length → ∃ b off, a = some ⟨b, off, none⟩ ∧ ∀ i, i < l.length → w.cell? ⟨b, off + i, none⟩ = some (.int .u8 (l.getD i 0))

theorem isHex_any (c : Int) (w : World) : Calls Try.prog 10 #[.int .u8 c] w fun e w' => e = .returned (.bool (isHex c)) ∧ w' = w := by
  by_cases h1 : 48 ≤ c
  all_goals by_cases h2 : c ≤ 57
  all_goals by_cases h3 : 97 ≤ c
  all_goals by_cases h4 : c ≤ 102
  all_goals by_cases h5 : 65 ≤ c
  all_goals by_cases h6 : c ≤ 70
  all_goals try omega
  all_goals
    go_enter Try.func10, Try.ntmps10
    go_wp2
    go_ret
    exact ⟨ret_bool (by simp [isHex]; omega), rfl⟩

theorem hexVal_any (c : Int) (h : isHex c = true) (w : World) : Calls Try.prog 8 #[.int .u8 c] w fun e w' => e = .returned (.int .u32 (hexVal c)) ∧ w' = w := by
  have hh : (48 ≤ c ∧ c ≤ 57) ∨ (97 ≤ c ∧ c ≤ 102) ∨ (65 ≤ c ∧ c ≤ 70) := by simp [isHex] at h; omega
  clear h
  rcases hh with ⟨h1, h2⟩ | ⟨h1, h2⟩ | ⟨h1, h2⟩
  · go_enter Try.func8, Try.ntmps8
    go_wp2
    go_ret
    exact ⟨ret_int (by unfold hexVal; split <;> omega), rfl⟩
  · have h3 : 57 < c := by omega
    go_enter Try.func8, Try.ntmps8
    go_wp2
    go_ret
    exact ⟨ret_int (by unfold hexVal; rw [if_neg (by omega), if_pos (by omega)]; omega), rfl⟩
  · have h3 : 57 < c := by omega
    have h4 : c < 97 := by omega
    go_enter Try.func8, Try.ntmps8
    go_wp2
    go_ret
    exact ⟨ret_int (by unfold hexVal; rw [if_neg (by omega), if_neg (by omega), if_pos (by omega)]; omega), rfl⟩

theorem bytesOne_any (a : Option Addr) (len cap : Nat) (hm : len ≤ maxLen) (w : World) : Calls Try.prog 5 #[.slice a len cap] w fun e w' => e = .returned (.bool (decide (len ≤ 1048576))) ∧ w' = w := by
  unfold maxLen at hm
  by_cases h : len ≤ 1048576
  · go_enter Try.func5, Try.ntmps5
    go_wp2
    go_ret
    exact ⟨ret_bool (by simp [h]), rfl⟩
  · have h' : 1048576 < len := by omega
    go_enter Try.func5, Try.ntmps5
    go_wp2
    go_ret
    exact ⟨ret_bool (by simp; omega), rfl⟩

set_option maxHeartbeats 400000 in
theorem allHex_any (a : Option Addr) (len cap : Nat) (l : List Int) (w : World) (hl : l.length = len) (hm : len ≤ 1048576) (hr : RowAt w a l) :
    Calls Try.prog 6 #[.slice a len cap] w fun e w' => e = .returned (.bool (l.all isHex)) ∧ w' = w := by
  have hnil : len = 0 ∨ 0 < len := by omega
  rcases hnil with h0 | h0
  · subst h0
    obtain rfl : l = [] := List.eq_nil_of_length_eq_zero hl
    go_enter Try.func6, Try.ntmps6
    go_wp2
    refine wp_loop_rounds 1 ?_
    rw [rounds_succ]
    go_wp2
    go_ret
    exact ⟨rfl, rfl⟩
  · obtain ⟨b, off, rfl, hc⟩ := hr (by omega)
    have HL : Hid (l.length = len) := hl
    clear hr hl
    go_enter Try.func6, Try.ntmps6
    go_wp2
    go_loop [3] (fun i => ∃ k : Nat, k ≤ len ∧ i = .int .i64 k ∧ (l.take k).all isHex = true) (fun i => len - (intOf i).toNat)
    case atStart => exact ⟨0, Nat.zero_le _, rfl, by simp⟩
    case round =>
      obtain ⟨k, hk, rfl, hall⟩ := hrel
      have HA : Hid ((l.take k).all isHex = true) := hall
      clear hall
      by_cases hlt : k < len
      · obtain ⟨c, hcd⟩ : ∃ c, c = l.getD k 0 := ⟨_, rfl⟩
        have hcell : w.cell? ⟨b, off + k, none⟩ = some (.int .u8 c) := by rw [hcd]; exact hc k (by rw [HL.out]; exact hlt)
        have HC : Hid (c = l.getD k 0) := hcd
        clear hcd
        by_cases hh : isHex c = true
        · go_wp2_with (go_at_call 10; refine (isHex_any _ _).mono ?_; rintro e w' ⟨rfl, rfl⟩)
          go_round
          case rel => exact ⟨k + 1, by omega, by go_num, by rw [take_snoc' l k (by rw [HL.out]; exact hlt), List.all_append, HA.out, ← HC.out]; simp [hh]⟩
          case measure => simp [intOf]; omega
        · have hh' : isHex c = false := by simpa using hh
          go_wp2_with (go_at_call 10; refine (isHex_any _ _).mono ?_; rintro e w' ⟨rfl, rfl⟩)
          go_ret
          exact ⟨ret_bool (by
            symm
            rw [List.all_eq_false]
            refine ⟨c, ?_, by simp [hh']⟩
            rw [HC.out]
            have := HL.out
            simp [List.getD_eq_getElem?_getD, List.getElem?_eq_getElem (show k < l.length by omega)]), rfl⟩
      · have hge : len ≤ k := by omega
        go_wp2
        go_ret
        exact ⟨ret_bool (by have := HA.out; have := HL.out; rw [← HA.out, List.take_of_length_le (by omega)]), rfl⟩

set_option maxHeartbeats 800000 in
theorem hexRune_any (a : Option Addr) (len cap : Nat) (l : List Int) (w : World) (hl : l.length = len) (hm : len ≤ 1048576) (hr : RowAt w a l) (hall : l.all isHex = true) :
    Calls Try.prog 12 #[.slice a len cap] w fun e w' => e = .returned (.int .i32 (wrap32 (num l))) ∧ w' = w := by
  have hnil : len = 0 ∨ 0 < len := by omega
  rcases hnil with h0 | h0
  · subst h0
    obtain rfl : l = [] := List.eq_nil_of_length_eq_zero hl
    go_enter Try.func12, Try.ntmps12
    go_wp2
    refine wp_loop_rounds 1 ?_
    rw [rounds_succ]
    go_wp2
    go_ret
    exact ⟨ret_int (by simp [num, wrap32]), rfl⟩
  · obtain ⟨b, off, rfl, hc⟩ := hr (by omega)
    have HL : Hid (l.length = len) := hl
    have HA : Hid (l.all isHex = true) := hall
    clear hr hl hall
    go_enter Try.func12, Try.ntmps12
    go_wp2
    go_loop [3, 8] (fun t i => ∃ k : Nat, k ≤ len ∧ i = .int .i64 k ∧ t = .int .i32 (wrap32 (num (l.take k)))) (fun _ i => len - (intOf i).toNat)
    case atStart => exact ⟨0, Nat.zero_le _, rfl, by simp [num, wrap32]⟩
    case round =>
      obtain ⟨k, hk, rfl, rfl⟩ := hrel
      by_cases hlt : k < len
      · have hkl : k < l.length := by rw [HL.out]; exact hlt
        obtain ⟨c, hcd⟩ : ∃ c, c = l.getD k 0 := ⟨_, rfl⟩
        have hcell : w.cell? ⟨b, off + k, none⟩ = some (.int .u8 c) := by rw [hcd]; exact hc k hkl
        have hh : isHex c = true := by
          refine List.all_eq_true.1 HA.out c ?_
          rw [hcd]; simp [List.getD_eq_getElem?_getD, List.getElem?_eq_getElem hkl]
        have HS : Hid (num (l.take (k + 1)) = num (l.take k) * 16 + hexVal c) := by rw [hcd]; exact num_take_succ l k hkl
        have h3 : (48 ≤ c ∧ c ≤ 57) ∨ (97 ≤ c ∧ c ≤ 102) ∨ (65 ≤ c ∧ c ≤ 70) := by simp [isHex] at hh; omega
        clear hcd hh hkl hc
        obtain ⟨n, hn⟩ : ∃ n, n = num (l.take k) := ⟨_, rfl⟩
        rw [← hn] at HS ⊢
        clear hn
        rcases h3 with ⟨h1, h2⟩ | ⟨h1, h2⟩ | ⟨h1, h2⟩
        · have HV : Hid (hexVal c = c - 48) := by show hexVal c = c - 48; unfold hexVal; rw [if_pos ⟨h1, h2⟩]
          go_wp2
          go_round
          case rel => exact ⟨k + 1, by omega, by go_num, by rw [HS.out, HV.out, ← or_step n (c - 48) (by omega) (by omega)]⟩
          case measure => simp [intOf]; omega
        · have HV : Hid (hexVal c = c - 97 + 10) := by show hexVal c = _; unfold hexVal; rw [if_neg (by omega), if_pos ⟨h1, h2⟩]; omega
          go_wp2
          go_round
          case rel => exact ⟨k + 1, by omega, by go_num, by rw [HS.out, HV.out, ← or_step n (c - 97 + 10) (by omega) (by omega)]⟩
          case measure => simp [intOf]; omega
        · have HV : Hid (hexVal c = c - 65 + 10) := by show hexVal c = _; unfold hexVal; rw [if_neg (by omega), if_neg (by omega), if_pos ⟨h1, h2⟩]; omega
          go_wp2
          go_round
          case rel => exact ⟨k + 1, by omega, by go_num, by rw [HS.out, HV.out, ← or_step n (c - 65 + 10) (by omega) (by omega)]⟩
          case measure => simp [intOf]; omega
      · have hge : len ≤ k := by omega
        go_wp2
        go_ret
        exact ⟨ret_int (by have := HL.out; rw [List.take_of_length_le (by omega)]), rfl⟩

theorem zzHexRune_any (a : Option Addr) (len cap : Nat) (l : List Int) (w : World) (hl : l.length = len) (hm : len ≤ 1048576) (hr : RowAt w a l) (hall : l.all isHex = true) :
    Calls Try.prog 7 #[.slice a len cap] w fun e w' => e = .returned (.int .i32 (wrap32 (num l))) ∧ w' = w := by
  have H := hexRune_any a len cap l w hl hm hr hall
  clear hl hr hall
  go_enter Try.func7, Try.ntmps7
  go_wp2_with (go_at_call 12; refine H.mono ?_; rintro e w' ⟨rfl, rfl⟩)
  go_ret
  exact ⟨rfl, rfl⟩
end Go.Proofs.Qxb6617803a
