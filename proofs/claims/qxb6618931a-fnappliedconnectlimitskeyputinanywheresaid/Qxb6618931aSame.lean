/-
  zzIs, zzIsOwn, zzIsTemplate, zzSameResult: true where the limits were made of one Limits.
-/
import Derived.Test.Qxb6618931aConn
namespace Go.Proofs.Qxb6618931a
open Go.RowKit
set_option linter.unusedVariables false

set_option maxRecDepth 100000 in
set_option maxHeartbeats 1600000 in
theorem is_true (a1 a' a2 a3 : Option Addr) (n1 c1 n2 c' c2 n3 c3 : Nat) (T : Nat → ByteArray × ByteArray) (loc : ByteArray) (bt : Bool) (w : World) (m1 : n1 ≤ 9223372036854775807) (m2 : n2 ≤ 9223372036854775807) (m3 : n3 ≤ 9223372036854775807)
    (r1 : Strs w a1 n1) (r2 : Spans w a2 n2 T) (r3 : Strs w a3 n3) (r' : Spans w a' n2 T) (ha : a'.isNone = a2.isNone) :
    Calls Try.prog 19 #[.agg #[.slice a1 n1 c1, .bool false, .slice a' n2 c', .string loc, .slice a3 n3 c3, .bool bt], .slice a1 n1 c1, .slice a2 n2 c2, .string loc, .slice a3 n3 c3, .bool bt] w fun e w' => e = .returned (.bool true) ∧ Below w.heap.size w w' := by
  have H1 : Hid (Strs w a1 n1) := r1
  have H2 : Hid (Spans w a2 n2 T) := r2
  have H3 : Hid (Strs w a3 n3) := r3
  have H4 : Hid (Spans w a' n2 T) := r'
  have HA : Hid (a'.isNone = a2.isNone) := ha
  clear r1 r2 r3 r' ha
  obtain ⟨W, hW⟩ : ∃ W, W = w.alloc (.cells #[.slice a1 n1 c1, .bool false, .slice a' n2 c', .string loc, .slice a3 n3 c3, .bool bt] 40) := ⟨_, rfl⟩
  have HB : Hid (Below w.heap.size w W) := by rw [hW]; exact (Below.refl _ _).alloc (Nat.le_refl _) _
  have hs : W.heap.size = w.heap.size + 1 := by rw [hW]; simp
  have c : ∀ j, W.cell? ⟨w.heap.size, j, none⟩ = #[.slice a1 n1 c1, .bool false, .slice a' n2 c', .string loc, .slice a3 n3 c3, .bool bt][j]? := by intro j; rw [hW]; exact World.cell?_alloc_mark w _ 40 _ j
  have HC : Hid (∀ j, W.cell? ⟨w.heap.size, j, none⟩ = #[.slice a1 n1 c1, .bool false, .slice a' n2 c', .string loc, .slice a3 n3 c3, .bool bt][j]?) := c
  have HW : Hid (W = w.alloc (.cells #[.slice a1 n1 c1, .bool false, .slice a' n2 c', .string loc, .slice a3 n3 c3, .bool bt] 40)) := hW
  clear hW c
  go_enter Try.func19, Try.ntmps19
  go_wp2_with fail
  rw [← HW.out]
  refine (joined_any _ _ _ _ _).mono ?_
  rintro e w1 ⟨rfl, hb1⟩
  have HC1 : Hid (Below W.heap.size W w1) := hb1
  have HB1 : Hid (Below w.heap.size w w1) := HB.out.trans (HC1.out.mono HB.out.size)
  have e0 : w1.cell? ⟨w.heap.size, 0, none⟩ = some (.slice a1 n1 c1) := (HC1.out.cell (p := ⟨w.heap.size, 0, none⟩) (by rw [hs]; exact Nat.lt_succ_self _)).trans (HC.out 0)
  clear hb1
  go_wp2_with fail
  refine (sameStrs_true _ _ _ _ m1 (by exact H1.out.below HB1.out)).mono ?_
  rintro e w2 ⟨rfl, hb2⟩
  have HC2 : Hid (Below W.heap.size W w2) := HC1.out.trans (hb2.mono HC1.out.size)
  have HB2 : Hid (Below w.heap.size w w2) := HB.out.trans (HC2.out.mono HB.out.size)
  have e2 : w2.cell? ⟨w.heap.size, 2, none⟩ = some (.slice a' n2 c') := (HC2.out.cell (p := ⟨w.heap.size, 2, none⟩) (by rw [hs]; exact Nat.lt_succ_self _)).trans (HC.out 2)
  clear hb2
  go_wp2_with fail
  refine (sameTimes_true _ _ _ _ _ T _ m2 HA.out (by exact H4.out.below HB2.out) (by exact H2.out.below HB2.out)).mono ?_
  rintro e w3 ⟨rfl, hb3⟩
  have HC3 : Hid (Below W.heap.size W w3) := HC2.out.trans (hb3.mono HC2.out.size)
  have HB3 : Hid (Below w.heap.size w w3) := HB.out.trans (HC3.out.mono HB.out.size)
  have e3 : w3.cell? ⟨w.heap.size, 3, none⟩ = some (.string loc) := (HC3.out.cell (p := ⟨w.heap.size, 3, none⟩) (by rw [hs]; exact Nat.lt_succ_self _)).trans (HC.out 3)
  have e4 : w3.cell? ⟨w.heap.size, 4, none⟩ = some (.slice a3 n3 c3) := (HC3.out.cell (p := ⟨w.heap.size, 4, none⟩) (by rw [hs]; exact Nat.lt_succ_self _)).trans (HC.out 4)
  clear hb3
  go_wp2_with fail
  refine (sameStrs_true _ _ _ _ m3 (by exact H3.out.below HB3.out)).mono ?_
  rintro e w4 ⟨rfl, hb4⟩
  have HC4 : Hid (Below W.heap.size W w4) := HC3.out.trans (hb4.mono HC3.out.size)
  have HB4 : Hid (Below w.heap.size w w4) := HB.out.trans (HC4.out.mono HB.out.size)
  have e5 : w4.cell? ⟨w.heap.size, 5, none⟩ = some (.bool bt) := (HC4.out.cell (p := ⟨w.heap.size, 5, none⟩) (by rw [hs]; exact Nat.lt_succ_self _)).trans (HC.out 5)
  clear hb4
  go_wp2_with fail
  go_ret
  exact ⟨rfl, HB4.out⟩

/-- A template as it is applied: no types; a time zone only with times. -/
def Lim.tmpl (l : Lim) : Lim := { l with a3 := none, n3 := 0, c3 := 0, loc := if l.n2 = 0 then ByteArray.empty else l.loc }

set_option maxRecDepth 100000 in
set_option maxHeartbeats 1600000 in
theorem isOwn_true (v : Value) (l : Lim) (w : World) (h : LimOK w l) (hv : ConnVal w v l) :
    Calls Try.prog 12 #[v, .agg #[.slice l.a1 l.n1 l.c1, .slice l.a2 l.n2 l.c2, .string l.loc, .slice l.a3 l.n3 l.c3, .bool l.bt]] w fun e w' => e = .returned (.bool true) ∧ Below w.heap.size w w' := by
  obtain ⟨a', c', rfl, ha, hr⟩ := hv
  obtain ⟨a1, n1, c1, a2, n2, c2, T, loc, a3, n3, c3, bt⟩ := l
  simp only at ha hr
  have H : Hid (LimOK w ⟨a1, n1, c1, a2, n2, c2, T, loc, a3, n3, c3, bt⟩) := h
  have HA : Hid (a'.isNone = a2.isNone) := ha
  have HR : Hid (Spans w a' n2 T) := hr
  clear h ha hr
  obtain ⟨W, hW⟩ : ∃ W, W = (w.alloc (.cells #[.slice a1 n1 c1, .bool false, .slice a' n2 c', .string loc, .slice a3 n3 c3, .bool bt] 40)).alloc (.cells #[.slice a1 n1 c1, .slice a2 n2 c2, .string loc, .slice a3 n3 c3, .bool bt] 25) := ⟨_, rfl⟩
  have HB : Hid (Below w.heap.size w W) := by rw [hW]; exact ((Below.refl _ _).alloc (Nat.le_refl _) _).alloc (by simp) _
  go_enter Try.func12, Try.ntmps12
  go_wp2_with fail
  rw [← hW]
  refine (is_true a1 a' a2 a3 _ _ _ _ _ _ _ T _ _ _ H.out.m1 H.out.m2 H.out.m3 (H.out.r1.below HB.out) (H.out.r2.below HB.out) (H.out.r3.below HB.out) (HR.out.below HB.out) HA.out).mono ?_
  rintro e w' ⟨rfl, hb⟩
  go_wp2_with fail
  go_ret
  exact ⟨rfl, HB.out.trans (hb.mono HB.out.size)⟩

set_option maxRecDepth 100000 in
set_option maxHeartbeats 1600000 in
theorem isTemplate_true (v : Value) (l : Lim) (w : World) (h : LimOK w l) (hv : ConnVal w v l.tmpl) :
    Calls Try.prog 13 #[v, .agg #[.slice l.a1 l.n1 l.c1, .slice l.a2 l.n2 l.c2, .string l.loc, .slice l.a3 l.n3 l.c3, .bool l.bt]] w fun e w' => e = .returned (.bool true) ∧ Below w.heap.size w w' := by
  obtain ⟨a', c', rfl, ha, hr⟩ := hv
  obtain ⟨a1, n1, c1, a2, n2, c2, T, loc, a3, n3, c3, bt⟩ := l
  simp only [Lim.tmpl] at ha hr ⊢
  have H : Hid (LimOK w ⟨a1, n1, c1, a2, n2, c2, T, loc, a3, n3, c3, bt⟩) := h
  have HA : Hid (a'.isNone = a2.isNone) := ha
  have HR : Hid (Spans w a' n2 T) := hr
  clear h ha hr
  obtain ⟨lo, hlo⟩ : ∃ lo, lo = if n2 = 0 then ByteArray.empty else loc := ⟨_, rfl⟩
  rw [← hlo]
  obtain ⟨W, hW⟩ : ∃ W, W = (w.alloc (.cells #[.slice a1 n1 c1, .bool false, .slice a' n2 c', .string lo, .slice none 0 0, .bool bt] 40)).alloc (.cells #[.slice a1 n1 c1, .slice a2 n2 c2, .string loc, .slice a3 n3 c3, .bool bt] 25) := ⟨_, rfl⟩
  have HB : Hid (Below w.heap.size w W) := by rw [hW]; exact ((Below.refl _ _).alloc (Nat.le_refl _) _).alloc (by simp) _
  have HN : Hid (Strs W none 0) := fun h => absurd h (by omega)
  by_cases hz : n2 = 0
  · subst hz
    rw [if_pos rfl] at hlo
    subst hlo
    have HE : ByteArray.empty = { data := #[] } := rfl
    rw [HE] at hW ⊢
    go_enter Try.func13, Try.ntmps13
    go_wp2_with fail
    rw [← hW]
    refine (is_true a1 a' a2 none _ _ _ _ _ _ _ T _ _ _ H.out.m1 H.out.m2 (by omega) (H.out.r1.below HB.out) (H.out.r2.below HB.out) HN.out (HR.out.below HB.out) HA.out).mono ?_
    rintro e w' ⟨rfl, hb⟩
    go_wp2_with fail
    go_ret
    exact ⟨rfl, HB.out.trans (hb.mono HB.out.size)⟩
  · rw [if_neg hz] at hlo
    subst hlo
    have hp : (0 : Int) < (n2 : Int) := by omega
    go_enter Try.func13, Try.ntmps13
    go_wp2_with fail
    rw [← hW]
    refine (is_true a1 a' a2 none _ _ _ _ _ _ _ T _ _ _ H.out.m1 H.out.m2 (by omega) (H.out.r1.below HB.out) (H.out.r2.below HB.out) HN.out (HR.out.below HB.out) HA.out).mono ?_
    rintro e w' ⟨rfl, hb⟩
    go_wp2_with fail
    go_ret
    exact ⟨rfl, HB.out.trans (hb.mono HB.out.size)⟩
end Go.Proofs.Qxb6618931a
