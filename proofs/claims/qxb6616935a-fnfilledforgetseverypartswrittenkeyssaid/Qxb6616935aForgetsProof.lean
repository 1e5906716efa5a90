/-
  THE PROOF OF 'Rows.FnFilledForgetsEveryPartsWrittenKeysSaid'.
-/
import Derived.Test.Qxb6616935aForgets
import Derived.Test.Qxb6616935aForgetsOpens
import Derived.ShutString
import Derived.Below
namespace Go.Proofs.Qxb6616935a.forgets
open Go.ChangeShapes Go.WideShapes Go.ChangeAt Go.RowKit
set_option linter.unusedVariables false

theorem own : ownKnob Try.prog.godebug = none := by kernel_rfl
theorem laidOut : laidOutB Try.prog = true := by kernel_rfl

set_option maxRecDepth 100000 in
set_option maxHeartbeats 1600000 in
/-- A length beyond the law's guard: it answers true at once. -/
theorem guard (a0 : Option Addr) (n0 c0 : Nat) (a1 : Option Addr) (n1 c1 : Nat) (S : List (List ByteArray)) (a2 : Option Addr) (n2 c2 : Nat) (a3 : Option Addr) (n3 c3 : Nat) (L : List (List Int)) (w : World) (hl1 : S.length = n1) (hm1 : n1 ≤ maxLen) (hl3 : L.length = n3) (hm3 : n3 ≤ maxLen) (hr1 : Rows2S w a1 S) (hr3 : Rows2 w a3 L) (hb : ∀ i, i < n1 → (S.getD i []).length ≤ maxLen)
    (h : ¬ (n0 ≤ 1048576 ∧ n1 ≤ 131072 ∧ n2 ≤ 131072 ∧ n3 ≤ 131072)) :
    Calls Try.prog 5 #[.slice a0 n0 c0, .slice a1 n1 c1, .slice a2 n2 c2, .slice a3 n3 c3] w fun e w' => e = .returned (.bool true) ∧ Below w.heap.size w w' := by
  have HC := fun c0 c1 c2 c3 => bytes2_any a0 a1 a2 a3 n0 c0 n1 c1 n2 c2 n3 c3 S L w hm1 hm3 hl1 hl3 hr1 hr3 hb
  have HCC : Hid (∀ c0 c1 c2 c3, Calls Try.prog 16 #[.slice a0 n0 c0, .slice a1 n1 c1, .slice a2 n2 c2, .slice a3 n3 c3] w fun e w' => AnyBool e ∧ w' = w) := HC
  clear HC hl1 hm1 hl3 hm3 hr1 hr3 hb
  by_cases h0 : n0 ≤ 1048576
  all_goals by_cases h1 : n1 ≤ 131072
  all_goals by_cases h2 : n2 ≤ 131072
  all_goals by_cases h3 : n3 ≤ 131072
  all_goals try (exfalso; exact h ⟨h0, h1, h2, h3⟩)
  all_goals clear h
  all_goals
    go_enter Try.func5, Try.ntmps5
    go_wp2_with fail
    refine (HCC.out _ _ _ _).mono ?_
    rintro e w' ⟨⟨bo, rfl⟩, hw⟩
    subst w'
    cases bo
    all_goals
      go_wp2_with fail
      go_ret
      exact ⟨rfl, Below.refl _ _⟩

set_option maxRecDepth 100000 in
theorem lifted (os : Os) (started : os.Started) (H : Type) (enc : TypeId × Value → H) :
    ReturnsInHanded {} Try.checked os 5 .any (Rows.fnFilledForgetsEveryPartsWrittenKeysSpec.pre6 enc Try.prog Try.f5 Rows.fnFilledForgetsEveryPartsWrittenKeysRow.domain false) (Rows.fnFilledForgetsEveryPartsWrittenKeysSpec.post enc Try.prog Try.f5 false true false false) := by
  refine returnsInHanded_of_change (C := Try.checked) own started (by kernel_rfl) Try.func5
    (ChangeSpec.witness6 (enc := enc) (C := Try.checked) false ⟨#[], #[.slice none 0 0, .slice none 0 0, .slice none 0 0, .slice none 0 0], []⟩ 8 (by kernel_rfl) (by kernel_rfl) (by kernel_rfl) (by kernel_rfl)) ?_
  intro W base args ds gs before hval0 hW hcnd _
  have hval : ∀ (j : Nat) t v, Try.f5.params[j]? = some t → args[j]? = some v → Value.okWide Try.prog W .any base t v := hval0
  have hW' := hW
  obtain ⟨p, q, hA0, hV, rfl, hfz, hnd⟩ := hW
  have hA : DataW.TrodAll enc Try.prog W 0 (fun _ => true) true Try.f5.params.toList args.toList ds p := hA0
  rw [Try.params5] at hA hval
  obtain ⟨v0, vs0, d0, ds0, p0, q0, hargs, rfl, rfl, h0, r0⟩ := trodAll_cons hA
  obtain ⟨v1, vs1, d1, ds1, p1, q1, rfl, rfl, rfl, h1, r1⟩ := trodAll_cons r0
  obtain ⟨v2, vs2, d2, ds2, p2, q2, rfl, rfl, rfl, h2, r2⟩ := trodAll_cons r1
  obtain ⟨v3, vs3, d3, ds3, p3, q3, rfl, rfl, rfl, h3, r3⟩ := trodAll_cons r2
  obtain ⟨rfl, rfl, rfl⟩ := trodAll_nil r3
  obtain rfl : args = #[v0, v1, v2, v3] := by cases args; simp_all
  obtain ⟨rfl, rfl⟩ := trodVars_none hV
  obtain ⟨a0, n0, c0, rfl⟩ := okWide_slice Try.underlying23 (hval 0 23 v0 rfl rfl)
  obtain ⟨a1, n1, c1, rfl⟩ := okWide_slice Try.underlying44 (hval 1 44 v1 rfl rfl)
  obtain ⟨a2, n2, c2, rfl⟩ := okWide_slice Try.underlying33 (hval 2 33 v2 rfl rfl)
  obtain ⟨a3, n3, c3, rfl⟩ := okWide_slice Try.underlying34 (hval 3 34 v3 rfl rfl)
  have k0 := h0
  have k1 := h1
  have k2 := h2
  have k3 := h3
  have lt0 : ∀ x ∈ p0, x.block < W.heap.size := by obtain ⟨m, hm⟩ := k0; exact DataW.trod_lt m _ _ _ hm
  have lt1 : ∀ x ∈ p1, x.block < W.heap.size := by obtain ⟨m, hm⟩ := k1; exact DataW.trod_lt m _ _ _ hm
  have lt2 : ∀ x ∈ p2, x.block < W.heap.size := by obtain ⟨m, hm⟩ := k2; exact DataW.trod_lt m _ _ _ hm
  have lt3 : ∀ x ∈ p3, x.block < W.heap.size := by obtain ⟨m, hm⟩ := k3; exact DataW.trod_lt m _ _ _ hm
  obtain ⟨f0, hf0⟩ := h0
  obtain ⟨f1, hf1⟩ := h1
  obtain ⟨f2, hf2⟩ := h2
  obtain ⟨f3, hf3⟩ := h3
  obtain ⟨b0, B, e0, ev0, m0, rr0, ww0⟩ := rowB_of hf0
  obtain ⟨b1, S, e1, ev1, m1, rr1, ww1⟩ := rows2S_of hf1
  obtain ⟨b2, xs, e2, ev2, m2, rr2, ww2⟩ := row_of hf2
  obtain ⟨b3, L, e3, ev3, m3, rr3, ww3⟩ := rows2_of hf3
  simp only [Value.slice.injEq] at ev0 ev1 ev2 ev3
  obtain ⟨rfl, rfl, rfl⟩ := ev0
  obtain ⟨rfl, rfl, rfl⟩ := ev1
  obtain ⟨rfl, rfl, rfl⟩ := ev2
  obtain ⟨rfl, rfl, rfl⟩ := ev3
  clear hA0 hval0
  have hwalk : Calls Try.prog 5 #[.slice a0 B.length c0, .slice a1 S.length c1, .slice a2 xs.length c2, .slice a3 L.length c3] W fun e w' => e = .returned (.bool true) ∧ Below W.heap.size W w' := by
    by_cases hall : B.length ≤ 1048576 ∧ S.length ≤ 131072 ∧ xs.length ≤ 131072 ∧ L.length ≤ 131072
    · exact forgets_any a0 _ c0 B a1 _ c1 S a2 _ c2 xs a3 _ c3 L W ⟨rfl, rfl, rfl, rfl, rr0, rr1, rr2, rr3, ww0, ww1, ww2⟩ hall.1 hall.2.1 hall.2.2.1 hall.2.2.2
    · exact guard a0 _ c0 a1 _ c1 S a2 _ c2 a3 _ c3 L W rfl m1 rfl m3 rr1 rr3 ww1 hall
  refine hwalk.mono fun e W' ⟨he, bel⟩ => ?_
  subst he
  exact ⟨_, rfl, _, _, _, [], _, [], hW', trodAll_mk1 (shut_bool Try.underlying4 _), (trodAll_cons_mk (Below.trod laidOut (by kernel_rfl) (of_decide_eq_true (by kernel_rfl)) k0 bel lt0) (trodAll_cons_mk (Below.trod laidOut (by kernel_rfl) (of_decide_eq_true (by kernel_rfl)) k1 bel lt1) (trodAll_cons_mk (Below.trod laidOut (by kernel_rfl) (of_decide_eq_true (by kernel_rfl)) k2 bel lt2) (trodAll_cons_mk (Below.trod laidOut (by kernel_rfl) (of_decide_eq_true (by kernel_rfl)) k3 bel lt3) trodAll_mk0)))), rfl, bel.frame _, fun h => by cases h⟩

theorem over : Rows.fnFilledForgetsEveryPartsWrittenKeysRow.holds Try.pinned (OpenSpec.ofChange Rows.fnFilledForgetsEveryPartsWrittenKeysSpec) :=
  OpenClaim.holds_of_wide 5 Try.f5 rfl rfl rfl rfl rfl rfl rfl ⟨rfl, rfl, rfl, rfl, rfl⟩ rfl rfl rfl rfl rfl (by kernel_rfl) Try.func5 (by kernel_rfl)
    (of_decide_eq_true (by kernel_rfl)) (by unfold Func.isWrapper; first | (rw [if_pos (by decide +kernel)]; kernel_rfl) | (rw [if_neg (by decide +kernel)]; exact ⟨rfl, rfl⟩))
    (fun os started H enc _ => lifted os started H enc)

/-- THE STATEMENT -/
theorem proved : Rows.FnFilledForgetsEveryPartsWrittenKeysSaid := over
end Go.Proofs.Qxb6616935a.forgets
