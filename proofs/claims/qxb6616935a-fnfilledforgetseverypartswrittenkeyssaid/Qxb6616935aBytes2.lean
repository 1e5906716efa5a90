/-
  zzBytes_FnFilledForgetsEveryPartsWrittenKeys: whatever it answers, it answers, and nothing turns.
-/
import Derived.Test.Qxb6616935aShared
namespace Go.Proofs.Qxb6616935a
open Go.RowKit
set_option linter.unusedVariables false

set_option maxRecDepth 100000 in
set_option maxHeartbeats 3200000 in
theorem bytes2_any (a0 a1 a2 a3 : Option Addr) (n0 c0 n1 c1 n2 c2 n3 c3 : Nat) (S : List (List ByteArray)) (L : List (List Int)) (w : World) (hm1 : n1 ≤ maxLen) (hm3 : n3 ≤ maxLen) (hl1 : S.length = n1) (hl3 : L.length = n3) (hr1 : Rows2S w a1 S) (hr3 : Rows2 w a3 L)
    (hb : ∀ i, i < n1 → (S.getD i []).length ≤ maxLen) :
    Calls Try.prog 16 #[.slice a0 n0 c0, .slice a1 n1 c1, .slice a2 n2 c2, .slice a3 n3 c3] w fun e w' => AnyBool e ∧ w' = w := by
  unfold maxLen at hm1 hm3
  have HL1 : Hid (S.length = n1) := hl1
  have HL3 : Hid (L.length = n3) := hl3
  have HR1 : Hid (Rows2S w a1 S) := hr1
  have HR3 : Hid (Rows2 w a3 L) := hr3
  have HB : Hid (∀ i, i < n1 → (S.getD i []).length ≤ maxLen) := hb
  clear hl1 hl3 hr1 hr3 hb
  go_enter Try.func16, Try.ntmps16
  go_wp2
  all_goals try (go_ret; exact ⟨anyBool _, rfl⟩)
  go_loop [9, 10, 11] (fun z i _ => ∃ (k : Nat) (y : Int), k ≤ n1 ∧ i = .int .i64 k ∧ z = .int .i64 y) (fun _ i _ => n1 - (intOf i).toNat)
  case atStart => exact ⟨0, _, Nat.zero_le _, rfl, rfl⟩
  case round =>
    obtain ⟨k, y, hk, rfl, rfl⟩ := hrel
    by_cases hlt : k < n1
    · obtain ⟨b, off, ha, hc⟩ := HR1.out (by rw [HL1.out]; omega)
      obtain ⟨ai, ci, hcell, hrow⟩ := hc k (by rw [HL1.out]; exact hlt)
      obtain ⟨l, hl⟩ : ∃ l, l = S.getD k [] := ⟨_, rfl⟩
      rw [← hl] at hcell hrow
      obtain ⟨m, hm'⟩ : ∃ m, m = l.length := ⟨_, rfl⟩
      rw [← hm'] at hcell
      have hmm : m ≤ 9223372036854775807 := by have := HB.out k hlt; unfold maxLen at this; rw [← hl, ← hm'] at this; omega
      have HM : Hid (m = l.length) := hm'
      have HROW : Hid (RowS w ai l) := hrow
      subst ha
      clear hm' hc hl hrow
      go_wp2
      all_goals try (go_ret; exact ⟨anyBool _, rfl⟩)
      go_loop [9, 11] (fun z i => ∃ (q : Nat) (y : Int), q ≤ m ∧ i = .int .i64 q ∧ z = .int .i64 y) (fun _ i => m - (intOf i).toNat)
      case atStart => exact ⟨0, _, Nat.zero_le _, rfl, rfl⟩
      case round =>
        obtain ⟨q, y2, hq, rfl, rfl⟩ := hrel
        by_cases hlt2 : q < m
        · obtain ⟨b2, o2, hai, hc2⟩ := HROW.out (by rw [← HM.out]; omega)
          obtain ⟨hs, _⟩ := hc2 q (by rw [← HM.out]; exact hlt2)
          obtain ⟨st, hst⟩ : ∃ st, st = l.getD q ByteArray.empty := ⟨_, rfl⟩
          rw [← hst] at hs
          subst hai
          clear hc2 hst
          go_wp2
          all_goals try (go_ret; exact ⟨anyBool _, rfl⟩)
          go_round
          case rel => exact ⟨q + 1, _, by omega, by go_num, rfl⟩
          case measure => simp [intOf]; omega
        · have hge2 : ¬ ((q : Int) < (m : Int)) := by omega
          go_wp2
          go_round
          case rel => exact ⟨k + 1, _, by omega, by go_num, rfl⟩
          case measure => simp [intOf]; omega
    · have hge : ¬ ((k : Int) < (n1 : Int)) := by omega
      go_wp2
      all_goals try (go_ret; exact ⟨anyBool _, rfl⟩)
      go_loop [9, 12] (fun z i => ∃ (k : Nat) (y : Int), k ≤ n3 ∧ i = .int .i64 k ∧ z = .int .i64 y) (fun _ i => n3 - (intOf i).toNat)
      case atStart => exact ⟨0, _, Nat.zero_le _, rfl, rfl⟩
      case round =>
        obtain ⟨k, y, hk, rfl, rfl⟩ := hrel
        by_cases hlt : k < n3
        · obtain ⟨b, off, ha, hc⟩ := HR3.out (by rw [HL3.out]; omega)
          obtain ⟨ai, ci, hcell, _⟩ := hc k (by rw [HL3.out]; exact hlt)
          obtain ⟨m, hm'⟩ : ∃ m, m = (L.getD k []).length := ⟨_, rfl⟩
          rw [← hm'] at hcell
          subst ha
          clear hm' hc
          go_wp2
          all_goals try (go_ret; exact ⟨anyBool _, rfl⟩)
          go_round
          case rel => exact ⟨k + 1, _, by omega, by go_num, rfl⟩
          case measure => simp [intOf]; omega
        · have hge : n3 ≤ k := by omega
          go_wp2
          all_goals (go_ret; exact ⟨anyBool _, rfl⟩)
end Go.Proofs.Qxb6616935a
