/-
  zzSameResult: true where both were made of one Limits.
-/
import Derived.Test.Qxb6618931aSame
namespace Go.Proofs.Qxb6618931a
open Go.RowKit
set_option linter.unusedVariables false

set_option maxRecDepth 100000 in
set_option maxHeartbeats 6400000 in
theorem sameResult_true (v v' : Value) (l : Lim) (w : World) (h : LimOK w l) (hv : ConnVal w v l) (hv' : ConnVal w v' l) :
    Calls Try.prog 14 #[v, v'] w fun e w' => e = .returned (.bool true) ∧ Below w.heap.size w w' := by
  obtain ⟨a', c', rfl, ha, hr⟩ := hv
  obtain ⟨b', d', rfl, hb, hs⟩ := hv'
  obtain ⟨a1, n1, c1, a2, n2, c2, T, loc, a3, n3, c3, bt⟩ := l
  simp only at ha hr hb hs ⊢
  have H : Hid (LimOK w ⟨a1, n1, c1, a2, n2, c2, T, loc, a3, n3, c3, bt⟩) := h
  have HA : Hid (a'.isNone = b'.isNone) := ha.trans hb.symm
  have HR : Hid (Spans w a' n2 T) := hr
  have HR' : Hid (Spans w b' n2 T) := hs
  clear h ha hr hb hs
  obtain ⟨W, hW⟩ : ∃ W, W = (w.alloc (.cells #[.slice a1 n1 c1, .bool false, .slice a' n2 c', .string loc, .slice a3 n3 c3, .bool bt] 40)).alloc (.cells #[.slice a1 n1 c1, .bool false, .slice b' n2 d', .string loc, .slice a3 n3 c3, .bool bt] 40) := ⟨_, rfl⟩
  have HB : Hid (Below w.heap.size w W) := by rw [hW]; exact ((Below.refl _ _).alloc (Nat.le_refl _) _).alloc (by simp) _
  have hs : W.heap.size = w.heap.size + 2 := by rw [hW]; simp
  have hc : ∀ j, W.cell? ⟨w.heap.size, j, none⟩ = #[.slice a1 n1 c1, .bool false, .slice a' n2 c', .string loc, .slice a3 n3 c3, .bool bt][j]? := by
    intro j
    rw [hW, World.cell?_alloc_lt _ _ _ (by simp)]
    exact World.cell?_alloc_mark w _ 40 _ j
  have hd : ∀ j, W.cell? ⟨w.heap.size + 1, j, none⟩ = #[.slice a1 n1 c1, .bool false, .slice b' n2 d', .string loc, .slice a3 n3 c3, .bool bt][j]? := by
    intro j
    rw [hW]
    simp
  have HW : Hid (W = (w.alloc (.cells #[.slice a1 n1 c1, .bool false, .slice a' n2 c', .string loc, .slice a3 n3 c3, .bool bt] 40)).alloc (.cells #[.slice a1 n1 c1, .bool false, .slice b' n2 d', .string loc, .slice a3 n3 c3, .bool bt] 40)) := hW
  clear hW
  obtain ⟨B0, hB0⟩ : ∃ B0, B0 = w.heap.size := ⟨_, rfl⟩
  obtain ⟨B1, hB1⟩ : ∃ B1, B1 = w.heap.size + 1 := ⟨_, rfl⟩
  rw [← hB0] at hc
  rw [← hB1] at hd
  have l0 : B0 < W.heap.size := by omega
  have l1 : B1 < W.heap.size := by omega
  have p0 : ∀ w', Below W.heap.size W w' → w'.cell? ⟨B0, 0, none⟩ = some (.slice a1 n1 c1) := fun w' h => (h.cell (p := ⟨B0, 0, none⟩) l0).trans (hc 0)
  have p1 : ∀ w', Below W.heap.size W w' → w'.cell? ⟨B0, 1, none⟩ = some (.bool false) := fun w' h => (h.cell (p := ⟨B0, 1, none⟩) l0).trans (hc 1)
  have p2 : ∀ w', Below W.heap.size W w' → w'.cell? ⟨B0, 2, none⟩ = some (.slice a' n2 c') := fun w' h => (h.cell (p := ⟨B0, 2, none⟩) l0).trans (hc 2)
  have p3 : ∀ w', Below W.heap.size W w' → w'.cell? ⟨B0, 3, none⟩ = some (.string loc) := fun w' h => (h.cell (p := ⟨B0, 3, none⟩) l0).trans (hc 3)
  have p4 : ∀ w', Below W.heap.size W w' → w'.cell? ⟨B0, 4, none⟩ = some (.slice a3 n3 c3) := fun w' h => (h.cell (p := ⟨B0, 4, none⟩) l0).trans (hc 4)
  have p5 : ∀ w', Below W.heap.size W w' → w'.cell? ⟨B0, 5, none⟩ = some (.bool bt) := fun w' h => (h.cell (p := ⟨B0, 5, none⟩) l0).trans (hc 5)
  have q0 : ∀ w', Below W.heap.size W w' → w'.cell? ⟨B1, 0, none⟩ = some (.slice a1 n1 c1) := fun w' h => (h.cell (p := ⟨B1, 0, none⟩) l1).trans (hd 0)
  have q1 : ∀ w', Below W.heap.size W w' → w'.cell? ⟨B1, 1, none⟩ = some (.bool false) := fun w' h => (h.cell (p := ⟨B1, 1, none⟩) l1).trans (hd 1)
  have q2 : ∀ w', Below W.heap.size W w' → w'.cell? ⟨B1, 2, none⟩ = some (.slice b' n2 d') := fun w' h => (h.cell (p := ⟨B1, 2, none⟩) l1).trans (hd 2)
  have q3 : ∀ w', Below W.heap.size W w' → w'.cell? ⟨B1, 3, none⟩ = some (.string loc) := fun w' h => (h.cell (p := ⟨B1, 3, none⟩) l1).trans (hd 3)
  have q4 : ∀ w', Below W.heap.size W w' → w'.cell? ⟨B1, 4, none⟩ = some (.slice a3 n3 c3) := fun w' h => (h.cell (p := ⟨B1, 4, none⟩) l1).trans (hd 4)
  have q5 : ∀ w', Below W.heap.size W w' → w'.cell? ⟨B1, 5, none⟩ = some (.bool bt) := fun w' h => (h.cell (p := ⟨B1, 5, none⟩) l1).trans (hd 5)
  have hS0 : Below W.heap.size W W.drew := (Below.refl _ _).drew
  have HS1 : Hid (∀ w', Below W.heap.size W w' → Calls Try.prog 21 #[.slice a1 n1 c1, .slice a1 n1 c1] w' fun e w'' => e = .returned (.bool true) ∧ Below W.heap.size W w'') := fun w' h => (sameStrs_true _ _ _ _ H.out.m1 ((H.out.r1.below HB.out).below h)).mono fun e w'' ⟨he, hb⟩ => ⟨he, h.trans (hb.mono h.size)⟩
  have HS2 : Hid (∀ w', Below W.heap.size W w' → Calls Try.prog 22 #[.slice a' n2 c', .slice b' n2 d'] w' fun e w'' => e = .returned (.bool true) ∧ Below W.heap.size W w'') := fun w' h => (sameRanges_true _ _ _ _ _ T _ H.out.m2 HA.out ((HR.out.below HB.out).below h) ((HR'.out.below HB.out).below h)).mono fun e w'' ⟨he, hb⟩ => ⟨he, h.trans (hb.mono h.size)⟩
  have HS3 : Hid (∀ w', Below W.heap.size W w' → Calls Try.prog 21 #[.slice a3 n3 c3, .slice a3 n3 c3] w' fun e w'' => e = .returned (.bool true) ∧ Below W.heap.size W w'') := fun w' h => (sameStrs_true _ _ _ _ H.out.m3 ((H.out.r3.below HB.out).below h)).mono fun e w'' ⟨he, hb⟩ => ⟨he, h.trans (hb.mono h.size)⟩
  have HS4 : Hid (∀ w', Below W.heap.size W w' → Calls Try.prog 20 #[.agg #[.slice a1 n1 c1, .bool false]] w' fun e w'' => e = .returned (.bool false) ∧ Below W.heap.size W w'') := fun w' h => (joined_any _ _ _ _ _).mono fun e w'' ⟨he, hb⟩ => ⟨he, h.trans (hb.mono h.size)⟩
  clear hc hd
  go_enter Try.func14, Try.ntmps14
  go_wp2_with fail
  rw [← HW.out, ← hB1, ← hB0]
  clear hB0 hB1 hs
  go_region_held3 (fun w' => Below W.heap.size W w') (first | assumption | go_keep) (first
    | (go_at_call 20; refine (HS4.out _ (by assumption)).mono ?_; rintro e w5 ⟨rfl, hS5⟩)
    | (go_at_call_of 21 (Value.slice a1 n1 c1); refine (HS1.out _ (by assumption)).mono ?_; rintro e w5 ⟨rfl, hS5⟩)
    | (go_at_call 22; refine (HS2.out _ (by assumption)).mono ?_; rintro e w5 ⟨rfl, hS5⟩)
    | (go_at_call_of 21 (Value.slice a3 n3 c3); refine (HS3.out _ (by assumption)).mono ?_; rintro e w5 ⟨rfl, hS5⟩))
  go_wp2_with fail
  go_ret
  refine ⟨rfl, HB.out.trans (Below.mono (B := W.heap.size) ?_ HB.out.size)⟩
  assumption
end Go.Proofs.Qxb6618931a
