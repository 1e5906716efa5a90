/-
  ROWS OF STRINGS AND OF PAIRS OF STRINGS; the callees that only read and lay nothing: zzAdd, zzAddStrs, zzSameStrs, zzSameTimes, zzSameRanges.
-/
import Derived.Test.Qxb6618931aRows
import Derived.WalkKit
import Derived.WalkSpells
import Derived.Deep.QuietTactic
import Derived.BigQuiet
import Derived.WalkSmall
namespace Go.Proofs.Qxb6618931a
open Go.RowKit
set_option linter.unusedVariables false

/-- The slice at 'a' reads as n strings. -/
def Strs (w : World) (a : Option Addr) (n : Nat) : Prop :=
  0 < n → ∃ b off, a = some ⟨b, off, none⟩ ∧ ∀ i, i < n → ∃ s, w.cell? ⟨b, off + i, none⟩ = some (.string s)
/-- The slice at 'a' reads as n pairs of strings, those of T. -/
def Spans (w : World) (a : Option Addr) (n : Nat) (T : Nat → ByteArray × ByteArray) : Prop :=
  0 < n → ∃ b off, a = some ⟨b, off, none⟩ ∧ ∀ i, i < n → w.cell? ⟨b, off + i * 2, none⟩ = some (.string (T i).1) ∧ w.cell? ⟨b, off + i * 2 + 1, none⟩ = some (.string (T i).2)

theorem Strs.below {w w' : World} {a : Option Addr} {n : Nat} (hb : Below w.heap.size w w') (h : Strs w a n) : Strs w' a n := by
  intro hn
  obtain ⟨b, off, rfl, hc⟩ := h hn
  refine ⟨b, off, rfl, fun i hi => ?_⟩
  obtain ⟨s, hs⟩ := hc i hi
  exact ⟨s, (hb.cell (p := ⟨b, off + i, none⟩) (World.block_lt_of_cell? _ _ hs)).trans hs⟩
theorem Spans.below {w w' : World} {a : Option Addr} {n : Nat} {T : Nat → ByteArray × ByteArray} (hb : Below w.heap.size w w') (h : Spans w a n T) : Spans w' a n T := by
  intro hn
  obtain ⟨b, off, rfl, hc⟩ := h hn
  refine ⟨b, off, rfl, fun i hi => ?_⟩
  obtain ⟨h1, h2⟩ := hc i hi
  exact ⟨(hb.cell (p := ⟨b, off + i * 2, none⟩) (World.block_lt_of_cell? _ _ h1)).trans h1, (hb.cell (p := ⟨b, off + i * 2 + 1, none⟩) (World.block_lt_of_cell? _ _ h2)).trans h2⟩

/-- It returns an int. -/
def AnyInt (e : Ending) : Prop := ∃ z, e = .returned (.int .i64 z)
theorem anyInt (z : Int) : AnyInt (.returned (.int .i64 z)) := ⟨z, rfl⟩

/-- zzAdd's own value. -/
def addZ (x y : Int) : Int := if 1048576 < x then 1048577 else if 1048576 < y then 1048577 else wrap64 (x + y)
theorem add_val (x y : Int) (w : World) : Calls Try.prog 15 #[.int .i64 x, .int .i64 y] w fun e w' => e = .returned (.int .i64 (addZ x y)) ∧ w' = w := by
  unfold addZ
  by_cases h1 : 1048576 < x
  · go_enter Try.func15, Try.ntmps15
    go_wp2
    go_ret
    exact ⟨rfl, rfl⟩
  by_cases h2 : 1048576 < y
  · go_enter Try.func15, Try.ntmps15
    go_wp2
    go_ret
    exact ⟨rfl, rfl⟩
  · go_enter Try.func15, Try.ntmps15
    go_wp2
    go_ret
    exact ⟨rfl, rfl⟩
theorem add_any (x y : Int) (w : World) : Calls Try.prog 15 #[.int .i64 x, .int .i64 y] w fun e w' => AnyInt e ∧ w' = w :=
  (add_val x y w).mono fun e w' ⟨he, hw⟩ => ⟨⟨_, he⟩, hw⟩

theorem addStrs_any (x : Int) (a : Option Addr) (n c : Nat) (w : World) (hn : n ≤ 9223372036854775807) (h : Strs w a n) :
    Calls Try.prog 16 #[.int .i64 x, .slice a n c] w fun e w' => AnyInt e ∧ w' = w := by
  have H : Hid (Strs w a n) := h
  clear h
  go_enter Try.func16, Try.ntmps16
  go_wp2_with fail
  refine (add_any _ _ _).mono ?_
  rintro e w' ⟨⟨z, rfl⟩, hw⟩
  subst w'
  go_wp2_with fail
  go_loop [0, 5] (fun t i => ∃ (k : Nat) (y : Int), k ≤ n ∧ i = .int .i64 k ∧ t = .int .i64 y) (fun _ i => n - (intOf i).toNat)
  case atStart => exact ⟨0, _, Nat.zero_le _, rfl, rfl⟩
  case round =>
    obtain ⟨k, y, hk, rfl, rfl⟩ := hrel
    by_cases hlt : k < n
    · obtain ⟨b, off, ha, hc⟩ := H.out (by omega)
      obtain ⟨s, hs⟩ := hc k hlt
      subst ha
      clear hc
      go_wp2_with fail
      refine (add_any _ _ _).mono ?_
      rintro e w' ⟨⟨z, rfl⟩, hw⟩
      subst w'
      go_wp2_with fail
      refine (add_any _ _ _).mono ?_
      rintro e w' ⟨⟨z, rfl⟩, hw⟩
      subst w'
      go_wp2_with fail
      · go_ret
        exact ⟨anyInt _, rfl⟩
      go_round
      case rel => exact ⟨k + 1, _, by omega, by go_num, rfl⟩
      case measure => simp [intOf]; omega
    · go_wp2_with fail
      go_ret
      exact ⟨anyInt _, rfl⟩

/-- A slice of strings is as itself. -/
theorem sameStrs_true (a : Option Addr) (n c : Nat) (w : World) (hn : n ≤ 9223372036854775807) (h : Strs w a n) :
    Calls Try.prog 21 #[.slice a n c, .slice a n c] w fun e w' => e = .returned (.bool true) ∧ Below w.heap.size w w' := by
  have H : Hid (Strs w a n) := h
  have hnil := fun (w : World) (a : Option Addr) (n c : Nat) => Lib.run_eql_slice_nil (P := Try.prog) w 22 9 a n c 0 0 Try.underlying22
  have h1 : (a.isNone != a.isNone) = false := by simp
  clear h
  go_enter Try.func21, Try.ntmps21
  go_wp2_with fail
  go_loopw [5] (fun i wr => ∃ k : Nat, k ≤ n ∧ i = .int .i64 k ∧ Below w.heap.size w wr) (fun i _ => n - (intOf i).toNat)
  case atStart => exact ⟨0, Nat.zero_le _, rfl, Below.refl _ _⟩
  case round =>
    obtain ⟨k, hk, rfl, hB⟩ := hrel
    by_cases hlt : k < n
    · obtain ⟨b, off, ha, hc⟩ := H.out (by omega)
      obtain ⟨s, hs⟩ := hc k hlt
      have e0 : wr.cell? ⟨b, off + k, none⟩ = some (.string s) := (hB.cell (p := ⟨b, off + k, none⟩) (World.block_lt_of_cell? _ _ hs)).trans hs
      have g1 : (k : Int) < (n : Int) := by omega
      subst ha
      clear hc
      go_wp2_with fail
      go_quiet (fail)
      go_wp2_with fail
      exact ⟨⟨k + 1, by omega, by go_num, below_drewN hB _⟩, by simp [intOf]; omega⟩
    · have hge : ¬ (k : Int) < (n : Int) := by omega
      go_wp2_with fail
      go_ret
      exact ⟨rfl, hB⟩

/-- Two slices of pairs of strings that read alike are alike. -/
theorem sameTimes_true (a b : Option Addr) (n c c' : Nat) (T : Nat → ByteArray × ByteArray) (w : World) (hn : n ≤ 9223372036854775807) (hab : a.isNone = b.isNone) (h : Spans w a n T) (h' : Spans w b n T) :
    Calls Try.prog 24 #[.slice a n c, .slice b n c'] w fun e w' => e = .returned (.bool true) ∧ Below w.heap.size w w' := by
  have H : Hid (Spans w a n T) := h
  have H' : Hid (Spans w b n T) := h'
  obtain ⟨bo, hbo⟩ : ∃ bo, a.isNone = bo := ⟨_, rfl⟩
  have hnil := fun (w : World) => Lib.run_eql_slice_nil (P := Try.prog) w 38 80 a n c 0 0 Try.underlying38
  have hnil2 := fun (w : World) => Lib.run_eql_slice_nil (P := Try.prog) w 23 47 b n c' 0 0 Try.underlying23
  rw [hbo] at hnil
  rw [← hab, hbo] at hnil2
  have h1 : (bo != bo) = false := by simp
  clear h h' hab hbo
  go_enter Try.func24, Try.ntmps24
  go_wp2_with fail
  go_loopw [5] (fun i wr => ∃ k : Nat, k ≤ n ∧ i = .int .i64 k ∧ Below w.heap.size w wr) (fun i _ => n - (intOf i).toNat)
  case atStart => exact ⟨0, Nat.zero_le _, rfl, Below.refl _ _⟩
  case round =>
    obtain ⟨k, hk, rfl, hB⟩ := hrel
    by_cases hlt : k < n
    · obtain ⟨b0, o0, ha, hc⟩ := H.out (by omega)
      obtain ⟨b1, o1, hb, hd⟩ := H'.out (by omega)
      obtain ⟨k0, k1⟩ := hc k hlt
      obtain ⟨k2, k3⟩ := hd k hlt
      obtain ⟨s0, hs0⟩ : ∃ s, s = (T k).1 := ⟨_, rfl⟩
      obtain ⟨s1, hs1⟩ : ∃ s, s = (T k).2 := ⟨_, rfl⟩
      rw [← hs0] at k0 k2
      rw [← hs1] at k1 k3
      have e0 : wr.cell? ⟨b0, o0 + k * 2, none⟩ = some (.string s0) := (hB.cell (p := ⟨b0, o0 + k * 2, none⟩) (World.block_lt_of_cell? _ _ k0)).trans k0
      have e1 : wr.cell? ⟨b0, o0 + k * 2 + 1, none⟩ = some (.string s1) := (hB.cell (p := ⟨b0, o0 + k * 2 + 1, none⟩) (World.block_lt_of_cell? _ _ k1)).trans k1
      have e2 : wr.cell? ⟨b1, o1 + k * 2, none⟩ = some (.string s0) := (hB.cell (p := ⟨b1, o1 + k * 2, none⟩) (World.block_lt_of_cell? _ _ k2)).trans k2
      have e3 : wr.cell? ⟨b1, o1 + k * 2 + 1, none⟩ = some (.string s1) := (hB.cell (p := ⟨b1, o1 + k * 2 + 1, none⟩) (World.block_lt_of_cell? _ _ k3)).trans k3
      have g1 : (k : Int) < (n : Int) := by omega
      subst ha hb
      clear hc hd k0 k1 k2 k3 hs0 hs1
      go_wp2_with fail
      go_quiet (fail)
      go_wp2_with fail
      exact ⟨⟨k + 1, by omega, by go_num, below_drewN hB _⟩, by simp [intOf]; omega⟩
    · have hge : ¬ (k : Int) < (n : Int) := by omega
      go_wp2_with fail
      go_ret
      exact ⟨rfl, hB⟩

/-- Two slices of pairs of strings that read alike are alike. -/
theorem sameRanges_true (a b : Option Addr) (n c c' : Nat) (T : Nat → ByteArray × ByteArray) (w : World) (hn : n ≤ 9223372036854775807) (hab : a.isNone = b.isNone) (h : Spans w a n T) (h' : Spans w b n T) :
    Calls Try.prog 22 #[.slice a n c, .slice b n c'] w fun e w' => e = .returned (.bool true) ∧ Below w.heap.size w w' := by
  have H : Hid (Spans w a n T) := h
  have H' : Hid (Spans w b n T) := h'
  obtain ⟨bo, hbo⟩ : ∃ bo, a.isNone = bo := ⟨_, rfl⟩
  have hnil := fun (w : World) => Lib.run_eql_slice_nil (P := Try.prog) w 38 80 a n c 0 0 Try.underlying38
  have hnil2 := fun (w : World) => Lib.run_eql_slice_nil (P := Try.prog) w 38 80 b n c' 0 0 Try.underlying38
  rw [hbo] at hnil
  rw [← hab, hbo] at hnil2
  have h1 : (bo != bo) = false := by simp
  clear h h' hab hbo
  go_enter Try.func22, Try.ntmps22
  go_wp2_with fail
  go_loopw [5] (fun i wr => ∃ k : Nat, k ≤ n ∧ i = .int .i64 k ∧ Below w.heap.size w wr) (fun i _ => n - (intOf i).toNat)
  case atStart => exact ⟨0, Nat.zero_le _, rfl, Below.refl _ _⟩
  case round =>
    obtain ⟨k, hk, rfl, hB⟩ := hrel
    by_cases hlt : k < n
    · obtain ⟨b0, o0, ha, hc⟩ := H.out (by omega)
      obtain ⟨b1, o1, hb, hd⟩ := H'.out (by omega)
      obtain ⟨k0, k1⟩ := hc k hlt
      obtain ⟨k2, k3⟩ := hd k hlt
      obtain ⟨s0, hs0⟩ : ∃ s, s = (T k).1 := ⟨_, rfl⟩
      obtain ⟨s1, hs1⟩ : ∃ s, s = (T k).2 := ⟨_, rfl⟩
      rw [← hs0] at k0 k2
      rw [← hs1] at k1 k3
      have e0 : wr.cell? ⟨b0, o0 + k * 2, none⟩ = some (.string s0) := (hB.cell (p := ⟨b0, o0 + k * 2, none⟩) (World.block_lt_of_cell? _ _ k0)).trans k0
      have e1 : wr.cell? ⟨b0, o0 + k * 2 + 1, none⟩ = some (.string s1) := (hB.cell (p := ⟨b0, o0 + k * 2 + 1, none⟩) (World.block_lt_of_cell? _ _ k1)).trans k1
      have e2 : wr.cell? ⟨b1, o1 + k * 2, none⟩ = some (.string s0) := (hB.cell (p := ⟨b1, o1 + k * 2, none⟩) (World.block_lt_of_cell? _ _ k2)).trans k2
      have e3 : wr.cell? ⟨b1, o1 + k * 2 + 1, none⟩ = some (.string s1) := (hB.cell (p := ⟨b1, o1 + k * 2 + 1, none⟩) (World.block_lt_of_cell? _ _ k3)).trans k3
      have g1 : (k : Int) < (n : Int) := by omega
      subst ha hb
      clear hc hd k0 k1 k2 k3 hs0 hs1
      go_wp2_with fail
      go_quiet (fail)
      go_wp2_with fail
      exact ⟨⟨k + 1, by omega, by go_num, below_drewN hB _⟩, by simp [intOf]; omega⟩
    · have hge : ¬ (k : Int) < (n : Int) := by omega
      go_wp2_with fail
      go_ret
      exact ⟨rfl, hB⟩
end Go.Proofs.Qxb6618931a
