/-
  THE PROOF OF 'Rows.FnHexRuneMatchesPositionalValueSaid' ('example.com/sagaline/sagaline/zzlaws_root_b1.FnHexRuneMatchesPositionalValue'). The frame was written by the kit's program (proof-skeleton.mjs); the walk is typed by hand.
-/
import Derived.Test.Qxb6617803aRows
import Derived.WalkKit
import Derived.ProofKit
import Derived.OpenShut
import Derived.ShutString
import Derived.ChangeOld
import Derived.Below
import Derived.WalkSpells
import Derived.Test.Qxb6617803aHexCopy
namespace Go.Proofs.Qxb6617803a.fnHexRuneMatchesPositionalValue
open Go.ChangeShapes Go.WideShapes Go.ChangeAt Go.RowKit
open Go.ChangeMaps (open_string shut_string)
set_option linter.unusedVariables false

theorem own : ownKnob Try.prog.godebug = none := by kernel_rfl
theorem laidOut : laidOutB Try.prog = true := by kernel_rfl

/-- WHAT THE WALK IS TOLD OF A SLICE OF INTEGERS THAT CAME IN: it is nil; or it leads to a row of 'cap' cells, the numbers 'zs' (the first 'len' are its elements, the rest its spare room), each fitting its kind. -/
def IsRow (k : IntKind) (w : World) (a : Option Addr) (len cap : Nat) (zs : List Int) : Prop :=
  (a = none ∧ len = 0 ∧ cap = 0 ∧ zs = []) ∨
  ∃ x, a = some x ∧ len ≤ cap ∧ cap ≤ maxLen ∧ zs.length = cap ∧ (∀ i, i < zs.length → w.cell? (x.add i) = some (.int k (zs.getD i 0))) ∧ ∀ n ∈ zs, (Lit.int k n).wf = true

theorem info5 : (Try.prog.info? 5).map (fun i => (i.zero, i.size, i.bytes)) = some (some (.int .u8 0), 1, 1) := by kernel_rfl
theorem size5 : (Try.prog.info? 5).map (·.size) = some 1 := by kernel_rfl

theorem made_below {w w1 : World} (hg : w.grownBy w1 none) : Below w.heap.size w w1 := (Below.refl _ _).grown hg (Nat.le_refl _) (fun _ h => by cases h)

/-! ### STEP 1: THE WALK -/
set_option maxHeartbeats 1600000 in
theorem core (a : Option Addr) (len cap : Nat) (l : List Int) (w : World) (hl : l.length = len) (hm : len ≤ maxLen) (hr : RowAt w a l) :
    Calls Try.prog 3 #[.slice a len cap] w fun e w' => e = .returned (.bool true) ∧ Below w.heap.size w w' := by
  have hneq := fun (w : World) (a : Option Addr) (n c : Nat) => run_neq_slice_nil_any (P := Try.prog) w 22 5 a n c 0 0 Try.underlying22
  by_cases h1 : len ≤ 1048576
  · by_cases h2 : l.all isHex = true
    · obtain ⟨i0, hi, hz0, hz1, hz2⟩ := info_parts info5
      cases ha : a with
      | none =>
        subst ha
        have hl0 : l = [] := by
          by_cases h : 0 < l.length
          · obtain ⟨b, off, h, _⟩ := hr h; cases h
          · exact List.eq_nil_of_length_eq_zero (by omega)
        subst hl0
        obtain rfl : len = 0 := by simpa using hl.symm
        go_enter Try.func3, Try.ntmps3
        go_wp2_with (first
          | (go_at_call 5; refine (bytesOne_any _ _ _ hm _).mono ?_; rintro e w' ⟨rfl, hw⟩; subst w')
          | (go_at_call 6; refine (allHex_any _ _ _ [] _ rfl h1 hr).mono ?_; rintro e w' ⟨rfl, hw⟩; subst w')
          | (go_at_call 7; refine (zzHexRune_any _ _ _ [] _ rfl h1 hr h2).mono ?_; rintro e w' ⟨rfl, hw⟩; subst w'))
        refine wp_loop_rounds 1 ?_
        rw [rounds_succ]
        go_wp2
        go_ret
        exact ⟨ret_bool (by simp [num, wrap32]), Below.refl _ _⟩
      | some x =>
        subst ha
        have hlt := lt_of_row hr
        have HL : Hid (l.length = len) := hl
        have HR : Hid (RowAt w (some x) l) := hr
        have HT : Hid (0 < l.length → ∀ y, some x = some y → y.block < w.heap.size) := hlt
        have H2 : Hid (l.all isHex = true) := h2
        clear hl hr h2 hlt
        go_enter Try.func3, Try.ntmps3
        go_wp2_with (first
          | (go_at_call 5; refine (bytesOne_any _ _ _ hm _).mono ?_; rintro e w' ⟨rfl, hw⟩; subst w')
          | (go_at_call 6; refine (allHex_any _ _ _ l _ HL.out h1 HR.out).mono ?_; rintro e w' ⟨rfl, hw⟩; subst w'; rw [H2.out])
          | (at_make; refine wpList_make_full _ rfl _ _ 22 rfl w.heap.size 5 i0 (.int .u8 0) 1 Try.underlying22 hi hz0 hz1 _ _ _ _ len rfl rfl rfl rfl (by rw [hz2]; omega) hm (Nat.le_refl _) ?_; intro w1 hown1 hgrow1; have hB1 := made_below hgrow1; obtain ⟨cur, hcur, hcl⟩ := made_cur hown1; have HCL : Hid (cur.length = len) := hcl; have HCR : Hid (w1.heap[w.heap.size]? = some (.cells cur.toArray 5 (0, 0))) := hcur; clear hcl hcur hown1 hgrow1)
          | (refine wpList_copy_splice rfl (.tmp 22) (.tmp 23) 22 22 rfl 5 Try.underlying22 size5 (some ⟨w.heap.size, 0, none⟩) (some x) len len len cap rfl rfl w.heap.size 0 cur 5 HCR.out (l.map (Value.int .u8)) (by rw [List.length_map, HL.out]; exact (Nat.min_self _).symm) (copy_src hB1 HT.out HR.out) (by rw [List.length_map, HL.out, HCL.out]; omega) (ints_one l) w.heap.size w hB1 (Nat.le_refl _) ?_; intro w2 HG2 hB2; have HR2 : Hid (RowAt w2 (some ⟨w.heap.size, 0, none⟩) l) := rowAt_block (by have := HG2.out; rwa [splice_all _ _ (by rw [List.length_map, HL.out, HCL.out])] at this))
          | (go_at_call 7; refine (zzHexRune_any _ _ _ l _ HL.out h1 HR2.out H2.out).mono ?_; rintro e w' ⟨rfl, hw⟩; subst w'))
        have hcell2 : ∀ k, k < len → w2.cell? ⟨w.heap.size, k, none⟩ = some (.int .u8 (l.getD k 0)) := by
          intro k hk
          obtain ⟨b, off, hb, hc⟩ := HR2.out (by rw [HL.out]; omega)
          cases hb
          simpa using hc k (by rw [HL.out]; exact hk)
        clear HR2 HG2 HCR HCL hB1 HR HT hm
        go_loop [5, 6, 7] (fun s p i => ∃ k : Nat, k ≤ len ∧ i = .int .i64 ((k : Int) - 1) ∧ s = .int .u32 (num (l.drop k) % 4294967296) ∧ p = .int .u32 (16 ^ (len - k) % 4294967296)) (fun _ _ i => (intOf i + 1).toNat)
        case atStart => exact ⟨len, Nat.le_refl _, rfl, by have := HL.out; rw [List.drop_of_length_le (by omega)]; rfl, by simp⟩
        case round =>
          obtain ⟨k, hk, rfl, rfl, rfl⟩ := hrel
          by_cases hk0 : k = 0
          · subst hk0
            go_wp2
            go_ret
            exact ⟨ret_bool (by rw [u32_wrap32]; simp), hB2⟩
          · obtain ⟨j, rfl⟩ : ∃ j, k = j + 1 := ⟨k - 1, by omega⟩
            have hjl : j < l.length := by rw [HL.out]; omega
            obtain ⟨q, hq⟩ : ∃ q : Int, q = 16 ^ (len - (j + 1)) % 4294967296 := ⟨_, rfl⟩
            obtain ⟨s, hs⟩ : ∃ s : Int, s = num (l.drop (j + 1)) % 4294967296 := ⟨_, rfl⟩
            obtain ⟨c, hc⟩ : ∃ c : Int, c = l.getD j 0 := ⟨_, rfl⟩
            have hcell : w2.cell? ⟨w.heap.size, j, none⟩ = some (.int .u8 c) := by rw [hc]; exact hcell2 j (by omega)
            rw [← hq, ← hs]
            by_cases hp : (q != 0) = true
            · have hh : isHex c = true := by
                refine List.all_eq_true.1 H2.out c ?_
                rw [hc]; simp [List.getD_eq_getElem?_getD, List.getElem?_eq_getElem hjl]
              have HH : Hid (isHex c = true) := hh
              have HQ : Hid (q = 16 ^ (len - (j + 1)) % 4294967296) := hq
              have HS : Hid (s = num (l.drop (j + 1)) % 4294967296) := hs
              have HC : Hid (c = l.getD j 0) := hc
              clear hq hs hc hh hcell2
              go_wp2_with (go_at_call 8; refine (hexVal_any _ HH.out _).mono ?_; rintro e w' ⟨rfl, hw⟩; subst w')
              go_round
              case rel => exact ⟨j, by omega, rfl, by rw [HS.out, ← want_step l j hjl q (by rw [HL.out]; exact HQ.out), ← HC.out], by rw [HQ.out, pw_step, show len - (j + 1) + 1 = len - j by omega]⟩
              case measure => simp [intOf]
            · have hp' : (q != 0) = false := by simpa using hp
              have HQ : Hid (q = 16 ^ (len - (j + 1)) % 4294967296) := hq
              have HS : Hid (s = num (l.drop (j + 1)) % 4294967296) := hs
              clear hq hs hc hcell2
              go_wp2
              go_ret
              exact ⟨ret_bool (by
                have hz : q = 0 := by simpa using hp'
                rw [HS.out, u32_wrap32, want_end l (j + 1) (by rw [HL.out, ← HQ.out]; exact hz)]; simp), hB2⟩
    · have h2' : l.all isHex = false := by simpa using h2
      have H2 : Hid (l.all isHex = false) := h2'
      clear h2 h2'
      go_enter Try.func3, Try.ntmps3
      go_wp2_with (first
        | (go_at_call 5; refine (bytesOne_any _ _ _ hm _).mono ?_; rintro e w' ⟨rfl, hw⟩; subst w')
        | (go_at_call 6; refine (allHex_any _ _ _ l _ hl h1 hr).mono ?_; rintro e w' ⟨rfl, hw⟩; subst w'; rw [H2.out]))
      go_ret
      exact ⟨rfl, Below.refl _ _⟩
  · go_enter Try.func3, Try.ntmps3
    go_wp2_with (first
      | (go_at_call 5; refine (bytesOne_any _ _ _ hm _).mono ?_; rintro e w' ⟨rfl, hw⟩; subst w'))
    go_ret
    exact ⟨rfl, Below.refl _ _⟩

theorem walk (a0 : Option Addr) (len0 cap0 : Nat) (z0 : List Int) (w : World) (w0 : IsRow .u8 w a0 len0 cap0 z0) :
    Calls Try.prog 3 #[.slice a0 len0 cap0] w fun e w' => e = .returned (.bool true) ∧ Below w.heap.size w w' := by
  rcases w0 with ⟨rfl, rfl, rfl, rfl⟩ | ⟨x, rfl, hlc, hcm, hz, hcell, hwf⟩
  · exact core none 0 0 [] w rfl (by unfold maxLen; omega) (fun h => absurd h (by simp))
  · refine core (some x) len0 cap0 (z0.take len0) w (by rw [List.length_take]; omega) (by omega) ?_
    intro hl
    have h0 : 0 < len0 := by rw [List.length_take] at hl; omega
    obtain ⟨b, off, spot⟩ := x
    have hspot : spot = none := by simpa [Addr.add] using World.cell?_spot (hcell 0 (by omega))
    subst hspot
    refine ⟨b, off, rfl, fun i hi => ?_⟩
    have hi' : i < len0 := by rw [List.length_take] at hi; omega
    have h := hcell i (by omega)
    rw [show (⟨b, off, none⟩ : Addr).add i = ⟨b, off + i, none⟩ from add_plain b off i] at h
    simpa [List.getElem?_take, hi'] using h

/-! ### THE ROW's STEP: WRITTEN OUT: LEAVE IT -/
set_option maxRecDepth 100000 in
theorem lifted (os : Os) (started : os.Started) (H : Type) (enc : TypeId × Value → H) :
    ReturnsInHanded {} Try.checked os 3 .any (Rows.fnHexRuneMatchesPositionalValueSpec.pre6 enc Try.prog Try.f3 Rows.fnHexRuneMatchesPositionalValueRow.domain false) (Rows.fnHexRuneMatchesPositionalValueSpec.post enc Try.prog Try.f3 false true false false) := by
  refine returnsInHanded_of_change (C := Try.checked) own started (by kernel_rfl) Try.func3
    (ChangeSpec.witness6 (enc := enc) (C := Try.checked) false ⟨#[], #[.slice none 0 0], []⟩ 8 (by kernel_rfl) (by kernel_rfl) (by kernel_rfl) (by kernel_rfl)) ?_
  intro W base args ds gs before hval0 hW hcnd _
  have hval : ∀ (j : Nat) t v, Try.f3.params[j]? = some t → args[j]? = some v → Value.okWide Try.prog W .any base t v := hval0
  have hW' := hW
  obtain ⟨p, q, hA0, hV, rfl, hfz, hnd⟩ := hW
  have hA : DataW.TrodAll enc Try.prog W 0 (fun _ => true) true Try.f3.params.toList args.toList ds p := hA0
  rw [Try.params3] at hA hval
  obtain ⟨v0, vs0, d0, ds0, p0, q0, hargs, rfl, rfl, h0, r0⟩ := trodAll_cons hA
  obtain ⟨rfl, rfl, rfl⟩ := trodAll_nil r0
  obtain rfl : args = #[v0] := by cases args; simp_all
  obtain ⟨rfl, rfl⟩ := trodVars_none hV
  obtain ⟨a0, len0, cap0, rfl⟩ := okWide_slice Try.underlying22 (hval 0 22 v0 rfl rfl)
  have k0 := h0
  have lt0 : ∀ x ∈ p0, x.block < W.heap.size := by obtain ⟨m, hm⟩ := k0; exact DataW.trod_lt m _ _ _ hm
  obtain ⟨z0, w0⟩ : ∃ zs, IsRow .u8 W a0 len0 cap0 zs := by
    obtain ⟨fuel, hf⟩ := h0
    rcases open_ints Try.underlying22 Try.underlying5 (by kernel_rfl) hf with ⟨hcs, _⟩ | ⟨x, l, c, zs, hcs, _, hl, hm, hz, _, hcell, hwz⟩
    · simp [Value.cells] at hcs
      obtain ⟨rfl, rfl, rfl⟩ := hcs
      exact ⟨[], .inl ⟨rfl, rfl, rfl, rfl⟩⟩
    · simp [Value.cells] at hcs
      obtain ⟨rfl, rfl, rfl⟩ := hcs
      exact ⟨zs, .inr ⟨_, rfl, hl, hm, by simpa using hz, hcell, hwz⟩⟩
  clear hA0 hval0
  refine (walk a0 len0 cap0 z0 W w0).mono fun e W' ⟨he, bel⟩ => ?_
  subst he
  exact ⟨_, rfl, _, _, _, [], _, [], hW', trodAll_mk1 (shut_bool Try.underlying4 _), (trodAll_cons_mk (Below.trod laidOut (by kernel_rfl) (of_decide_eq_true (by kernel_rfl)) k0 bel lt0) trodAll_mk0), rfl, bel.frame _, fun h => by cases h⟩

theorem over : Rows.fnHexRuneMatchesPositionalValueRow.holds Try.pinned (OpenSpec.ofChange Rows.fnHexRuneMatchesPositionalValueSpec) :=
  OpenClaim.holds_of_wide 3 Try.f3 rfl rfl rfl rfl rfl rfl rfl ⟨rfl, rfl, rfl, rfl, rfl⟩ rfl rfl rfl rfl rfl (by kernel_rfl) Try.func3 (by kernel_rfl)
    (of_decide_eq_true (by kernel_rfl)) (by unfold Func.isWrapper; first | (rw [if_pos (by decide +kernel)]; kernel_rfl) | (rw [if_neg (by decide +kernel)]; exact ⟨rfl, rfl⟩))
    (fun os started H enc _ => lifted os started H enc)

/-- THE STATEMENT -/
theorem proved : Rows.FnHexRuneMatchesPositionalValueSaid := over
end Go.Proofs.Qxb6617803a.fnHexRuneMatchesPositionalValue
