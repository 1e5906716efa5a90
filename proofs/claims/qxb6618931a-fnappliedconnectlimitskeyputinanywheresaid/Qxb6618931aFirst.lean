/-
  zzFirst; and the plain law on a key put in anywhere.
-/
import Derived.Test.Qxb6618931aApplied
namespace Go.Proofs.Qxb6618931a
open Go.RowKit
set_option linter.unusedVariables false

set_option maxHeartbeats 800000 in
theorem first_any (a : Option Addr) (n c : Nat) (K : Nat → Key) (s : ByteArray) (w : World) (hn : n ≤ 9223372036854775807) (h : KeysAt w a n K) :
    Calls Try.prog 11 #[.slice a n c, .string s] w fun e w' => FirstRet K n s e ∧ w' = w := by
  have H : Hid (KeysAt w a n K) := h
  clear h
  go_enter Try.func11, Try.ntmps11
  go_wp2_with fail
  go_loop [5] (fun i => ∃ k : Nat, k ≤ n ∧ i = .int .i64 k ∧ ∀ j, j < k → ((K j).key.toList == s.toList) = false) (fun i => n - (intOf i).toNat)
  case atStart => exact ⟨0, Nat.zero_le _, rfl, fun j hj => absurd hj (by omega)⟩
  case round =>
    obtain ⟨k, hk, rfl, hdone⟩ := hrel
    have HD : Hid (∀ j, j < k → ((K j).key.toList == s.toList) = false) := hdone
    clear hdone
    by_cases hlt : k < n
    · have g1 : (k : Int) < (n : Int) := by omega
      obtain ⟨b0, o0, ha, hc⟩ := H.out.row (by omega)
      obtain ⟨e0, _⟩ := hc k hlt
      obtain ⟨key, hkey⟩ : ∃ key, key = (K k).key := ⟨_, rfl⟩
      rw [← hkey] at e0
      have HK : Hid (key = (K k).key) := hkey
      subst ha
      clear hc hkey
      cases hbo : (key.toList == s.toList) with
      | true =>
        go_wp2_with fail
        go_ret
        exact ⟨⟨_, rfl, .inr ⟨k, hlt, rfl, by rw [← HK.out]; exact hbo, HD.out⟩⟩, rfl⟩
      | false =>
        go_wp2_with fail
        go_round
        case rel => exact ⟨k + 1, by omega, by go_num, fun j hj => by by_cases e : j = k; (subst e; rw [← HK.out]; exact hbo); exact HD.out j (by omega)⟩
        case measure => simp [intOf]; omega
    · have hge : k = n := by omega
      subst hge
      have g1 : ¬ (k : Int) < (k : Int) := by omega
      go_wp2_with fail
      go_ret
      exact ⟨⟨_, rfl, .inl ⟨rfl, HD.out⟩⟩, rfl⟩

/-- The keys with κ put in at p. -/
def putIn (K : Nat → Key) (p : Nat) (κ : Key) (i : Nat) : Key := if i < p then K i else if i = p then κ else K (i - 1)
theorem putIn_lt {K : Nat → Key} {p : Nat} {κ : Key} {i : Nat} (h : i < p) : putIn K p κ i = K i := by simp [putIn, h]
theorem putIn_eq {K : Nat → Key} {p : Nat} {κ : Key} : putIn K p κ p = κ := by simp [putIn]
theorem putIn_gt {K : Nat → Key} {p : Nat} {κ : Key} {i : Nat} (h : p ≤ i) : putIn K p κ (i + 1) = K i := by
  have h1 : ¬ i + 1 < p := by omega
  have h2 : ¬ i + 1 = p := by omega
  simp [putIn, h1, h2]

theorem applied_none {own l : Lim} {K : Nat → Key} {n : Nat} {s : ByteArray} (h : Applied own K n s l) (hno : ∀ j, j < n → ((K j).key.toList == s.toList) = false) : l = own := by
  rcases h with ⟨h, _⟩ | ⟨i, hi, _, hy, _⟩
  · exact h
  · rw [hno i hi] at hy; cases hy
/-- At the first place. -/
theorem applied_at {own l : Lim} {K : Nat → Key} {n : Nat} {s : ByteArray} (h : Applied own K n s l) {i : Nat} (hi : i < n) (hy : ((K i).key.toList == s.toList) = true) (hno : ∀ j, j < i → ((K j).key.toList == s.toList) = false) :
    ((K i).sc = none → l = own) ∧ ((K i).sc ≠ none → l = (K i).l.tmpl) := by
  have uniq : ∀ j, ((K j).key.toList == s.toList) = true → (∀ k, k < j → ((K k).key.toList == s.toList) = false) → j = i := fun j h1 h2 => by
    rcases Nat.lt_trichotomy j i with h | h | h
    · rw [hno j h] at h1; cases h1
    · exact h
    · rw [h2 i h] at hy; cases hy
  rcases h with ⟨h, h2⟩ | ⟨j, hj, hs, hyj, hnoj, h⟩
  · refine ⟨fun _ => h, fun hs => ?_⟩
    rcases h2 with h2 | ⟨j, hj, hs2, hyj, hnoj⟩
    · rw [h2 i hi] at hy; cases hy
    · rw [uniq j hyj hnoj] at hs2
      exact absurd hs2 hs
  · rw [uniq j hyj hnoj] at hs h
    exact ⟨fun h' => absurd h' hs, fun _ => h⟩

/-- Put in at a place where it is not the issuer's, or behind the first: nothing turns. -/
theorem applied_put_same {own l l' : Lim} {K : Nat → Key} {n p : Nat} {κ : Key} {s : ByteArray} (hp : p ≤ n) (h : Applied own K n s l) (h' : Applied own (putIn K p κ) (n + 1) s l')
    (hc : (κ.key.toList == s.toList) = false ∨ ∃ i, i < p ∧ i < n ∧ ((K i).key.toList == s.toList) = true ∧ ∀ j, j < i → ((K j).key.toList == s.toList) = false) : l' = l := by
  by_cases hx : ∃ i, i < n ∧ ((K i).key.toList == s.toList) = true ∧ ∀ j, j < i → ((K j).key.toList == s.toList) = false
  · obtain ⟨i, hi, hy, hno⟩ := hx
    have a1 := applied_at h hi hy hno
    by_cases hip : i < p
    · have a2 := applied_at (i := i) h' (by omega) (by rw [putIn_lt hip]; exact hy) (fun j hj => by rw [putIn_lt (by omega)]; exact hno j hj)
      rw [putIn_lt hip] at a2
      by_cases hs : (K i).sc = none
      · rw [a1.1 hs, a2.1 hs]
      · rw [a1.2 hs, a2.2 hs]
    · have hk : (κ.key.toList == s.toList) = false := by
        rcases hc with hc | ⟨i', hi', _, hy', hno'⟩
        · exact hc
        · have := hno i' (by omega)
          rw [this] at hy'; cases hy'
      have a2 := applied_at (i := i + 1) h' (by omega) (by rw [putIn_gt (by omega)]; exact hy) (fun j hj => by
        rcases Nat.lt_trichotomy j p with h1 | h1 | h1
        · rw [putIn_lt h1]; exact hno j (by omega)
        · subst h1; rw [putIn_eq]; exact hk
        · obtain ⟨q, rfl⟩ : ∃ q, j = q + 1 := ⟨j - 1, by omega⟩
          rw [putIn_gt (by omega)]; exact hno q (by omega))
      rw [putIn_gt (by omega)] at a2
      by_cases hs : (K i).sc = none
      · rw [a1.1 hs, a2.1 hs]
      · rw [a1.2 hs, a2.2 hs]
  · have hno : ∀ j, j < n → ((K j).key.toList == s.toList) = false := by
      intro j
      induction j using Nat.strongRecOn with
      | _ j ih =>
        intro hj
        cases e : ((K j).key.toList == s.toList) with
        | false => rfl
        | true => exact absurd ⟨j, hj, e, fun i hi => ih i hi (by omega)⟩ hx
    have hk : (κ.key.toList == s.toList) = false := by
      rcases hc with hc | ⟨i', _, hi', hy', _⟩
      · exact hc
      · rw [hno i' hi'] at hy'; cases hy'
    rw [applied_none h hno]
    refine applied_none h' (fun j hj => ?_)
    rcases Nat.lt_trichotomy j p with h1 | h1 | h1
    · rw [putIn_lt h1]; exact hno j (by omega)
    · subst h1; rw [putIn_eq]; exact hk
    · obtain ⟨q, rfl⟩ : ∃ q, j = q + 1 := ⟨j - 1, by omega⟩
      rw [putIn_gt (by omega)]; exact hno q (by omega)
end Go.Proofs.Qxb6618931a
