/-
  THE PROOF OF 'Rows.FnAppliedConnectLimitsKeyPutInAnywhereSaid'.
-/
import Derived.Test.Qxb6618931aLaw
import Derived.Test.Qxb6618931aOpens
import Derived.ShutString
import Derived.Below
namespace Go.Proofs.Qxb6618931a.putInAnywhere
open Go.ChangeShapes Go.WideShapes Go.ChangeAt Go.RowKit
set_option linter.unusedVariables false

theorem own : ownKnob Try.prog.godebug = none := by kernel_rfl
theorem laidOut : laidOutB Try.prog = true := by kernel_rfl

theorem five (cs : Array Value) (h : cs.size = 5) : ∃ w0 w1 w2 w3 w4, cs = #[w0, w1, w2, w3, w4] := by
  obtain ⟨l⟩ := cs
  match l, h with
  | [c0, c1, c2, c3, c4], _ => exact ⟨c0, c1, c2, c3, c4, rfl⟩

theorem two (cs : Array Value) (h : cs.size = 2) : ∃ w0 w1, cs = #[w0, w1] := by
  obtain ⟨l⟩ := cs
  match l, h with
  | [c0, c1], _ => exact ⟨c0, c1, rfl⟩

set_option maxRecDepth 100000 in
theorem lifted (os : Os) (started : os.Started) (H : Type) (enc : TypeId × Value → H) :
    ReturnsInHanded {} Try.checked os 3 .any (Rows.fnAppliedConnectLimitsKeyPutInAnywhereSpec.pre6 enc Try.prog Try.f3 Rows.fnAppliedConnectLimitsKeyPutInAnywhereRow.domain false) (Rows.fnAppliedConnectLimitsKeyPutInAnywhereSpec.post enc Try.prog Try.f3 false true false false) := by
  refine returnsInHanded_of_change (C := Try.checked) own started (by kernel_rfl) Try.func3
    (ChangeSpec.witness6 (enc := enc) (C := Try.checked) false ⟨#[], #[.string ByteArray.empty, .agg #[.slice none 0 0, .slice none 0 0, .string ByteArray.empty, .slice none 0 0, .bool false], .slice none 0 0, .int .i64 0, .agg #[.string ByteArray.empty, .pointer none]], []⟩ 8 (by kernel_rfl) (by kernel_rfl) (by kernel_rfl) (by kernel_rfl)) ?_
  intro W base args ds gs before hval0 hW hcnd _
  have hval : ∀ (j : Nat) t v, Try.f3.params[j]? = some t → args[j]? = some v → Value.okWide Try.prog W .any base t v := hval0
  have hW' := hW
  obtain ⟨p, q, hA0, hV, rfl, hfz, hnd⟩ := hW
  have hA : DataW.TrodAll enc Try.prog W 0 (fun _ => true) true Try.f3.params.toList args.toList ds p := hA0
  rw [Try.params3] at hA hval
  obtain ⟨v0, vs0, d0, ds0, p0, q0, hargs, rfl, rfl, h0, r0⟩ := trodAll_cons hA
  obtain ⟨v1, vs1, d1, ds1, p1, q1, rfl, rfl, rfl, h1, r1⟩ := trodAll_cons r0
  obtain ⟨v2, vs2, d2, ds2, p2, q2, rfl, rfl, rfl, h2, r2⟩ := trodAll_cons r1
  obtain ⟨v3, vs3, d3, ds3, p3, q3, rfl, rfl, rfl, h3, r3⟩ := trodAll_cons r2
  obtain ⟨v4, vs4, d4, ds4, p4, q4, rfl, rfl, rfl, h4, r4⟩ := trodAll_cons r3
  obtain ⟨rfl, rfl, rfl⟩ := trodAll_nil r4
  obtain rfl : args = #[v0, v1, v2, v3, v4] := by cases args; simp_all
  obtain ⟨rfl, rfl⟩ := trodVars_none hV
  have k0 := h0
  have k1 := h1
  have k2 := h2
  have k3 := h3
  have k4 := h4
  have lt0 : ∀ x ∈ p0, x.block < W.heap.size := by obtain ⟨m, hm⟩ := k0; exact DataW.trod_lt m _ _ _ hm
  have lt1 : ∀ x ∈ p1, x.block < W.heap.size := by obtain ⟨m, hm⟩ := k1; exact DataW.trod_lt m _ _ _ hm
  have lt2 : ∀ x ∈ p2, x.block < W.heap.size := by obtain ⟨m, hm⟩ := k2; exact DataW.trod_lt m _ _ _ hm
  have lt3 : ∀ x ∈ p3, x.block < W.heap.size := by obtain ⟨m, hm⟩ := k3; exact DataW.trod_lt m _ _ _ hm
  have lt4 : ∀ x ∈ p4, x.block < W.heap.size := by obtain ⟨m, hm⟩ := k4; exact DataW.trod_lt m _ _ _ hm
  obtain ⟨cs1, rfl, hsz1⟩ := okWide_struct Try.underlying25 (hval 1 25 v1 rfl rfl)
  obtain ⟨cs4, rfl, hsz4⟩ := okWide_struct Try.underlying29 (hval 4 29 v4 rfl rfl)
  obtain ⟨s, rfl⟩ := okWide_string Try.underlying9 (hval 0 9 v0 rfl rfl)
  obtain ⟨z, rfl, _⟩ := okWide_int Try.underlying3 (hval 3 3 v3 rfl rfl)
  obtain ⟨a2, n2, c2, rfl⟩ := okWide_slice Try.underlying26 (hval 2 26 v2 rfl rfl)
  rw [cells25] at hsz1
  rw [cells29] at hsz4
  obtain ⟨f1, hf1⟩ := h1
  obtain ⟨f2, hf2⟩ := h2
  obtain ⟨f4, hf4⟩ := h4
  obtain ⟨w0, w1, w2, w3, w4, rfl⟩ := five cs1 hsz1
  obtain ⟨x0, x1, rfl⟩ := two cs4 hsz4
  obtain ⟨own, rfl, rfl, rfl, rfl, rfl, hown⟩ := lim_of (by simpa [Value.cells] using hf1)
  obtain ⟨b2, m2, e2, K, ev2, hm2, hkeys⟩ := keys_of (by simpa [Value.cells] using hf2)
  simp only [Value.slice.injEq] at ev2
  obtain ⟨rfl, rfl, rfl⟩ := ev2
  obtain ⟨y0, y1, m, _, _, e0, e1⟩ := trod_struct2 Try.underlying29 hf4
  simp [cells9, cells27, Value.cells] at e0 e1
  obtain ⟨key, hkey, _⟩ := DataW.trod_string Try.underlying9 e0
  obtain ⟨sc, l, rfl, hsc⟩ := scope_of e1
  simp at hkey
  subst hkey
  clear hA0 hval0
  refine (law_any s own a2 n2 c2 K z key sc l W hm2 hown hkeys hsc).mono fun e W' ⟨he, bel⟩ => ?_
  subst he
  exact ⟨_, rfl, _, _, _, [], _, [], hW', trodAll_mk1 (shut_bool Try.underlying4 _), (trodAll_cons_mk (Below.trod laidOut (by kernel_rfl) (of_decide_eq_true (by kernel_rfl)) k0 bel lt0) (trodAll_cons_mk (Below.trod laidOut (by kernel_rfl) (of_decide_eq_true (by kernel_rfl)) k1 bel lt1) (trodAll_cons_mk (Below.trod laidOut (by kernel_rfl) (of_decide_eq_true (by kernel_rfl)) k2 bel lt2) (trodAll_cons_mk (Below.trod laidOut (by kernel_rfl) (of_decide_eq_true (by kernel_rfl)) k3 bel lt3) (trodAll_cons_mk (Below.trod laidOut (by kernel_rfl) (of_decide_eq_true (by kernel_rfl)) k4 bel lt4) trodAll_mk0))))), rfl, bel.frame _, fun h => by cases h⟩

theorem over : Rows.fnAppliedConnectLimitsKeyPutInAnywhereRow.holds Try.pinned (OpenSpec.ofChange Rows.fnAppliedConnectLimitsKeyPutInAnywhereSpec) :=
  OpenClaim.holds_of_wide 3 Try.f3 rfl rfl rfl rfl rfl rfl rfl ⟨rfl, rfl, rfl, rfl, rfl⟩ rfl rfl rfl rfl rfl (by kernel_rfl) Try.func3 (by kernel_rfl)
    (of_decide_eq_true (by kernel_rfl)) (by unfold Func.isWrapper; first | (rw [if_pos (by decide +kernel)]; kernel_rfl) | (rw [if_neg (by decide +kernel)]; exact ⟨rfl, rfl⟩))
    (fun os started H enc _ => lifted os started H enc)

/-- THE STATEMENT -/
theorem proved : Rows.FnAppliedConnectLimitsKeyPutInAnywhereSaid := over
end Go.Proofs.Qxb6618931a.putInAnywhere
