/-
  THE PROOF OF 'Rows.FnTakeSplitAtAnyCutSaid' ('example.com/unifold/unifold/zzlaws_inflate_b1.FnTakeSplitAtAnyCut'). The frame was written by the kit's program (proof-skeleton.mjs); the walk is typed by hand.
-/
import Derived.Test.Qxb6619235aRows
import Derived.WalkKit
import Derived.ProofKit
import Derived.OpenShut
import Derived.ShutString
import Derived.ChangeOld
import Derived.Below
import Derived.WalkSpells
import Derived.Deep.DeepCutAuto
import Derived.Test.Qxb6619235aTakeCopy
namespace Go.Proofs.Qxb6619235a.fnTakeSplitAtAnyCut
open Go.ChangeShapes Go.WideShapes Go.ChangeAt Go.RowKit
open Go.ChangeMaps (open_string shut_string)
set_option linter.unusedVariables false

theorem own : ownKnob Try.prog.godebug = none := by kernel_rfl
theorem laidOut : laidOutB Try.prog = true := by kernel_rfl

/-- WHAT THE WALK IS TOLD OF A SLICE OF INTEGERS THAT CAME IN: it is nil; or it leads to a row of 'cap' cells, the numbers 'zs' (the first 'len' are its elements, the rest its spare room), each fitting its kind. -/
def IsRow (k : IntKind) (w : World) (a : Option Addr) (len cap : Nat) (zs : List Int) : Prop :=
  (a = none ∧ len = 0 ∧ cap = 0 ∧ zs = []) ∨
  ∃ x, a = some x ∧ len ≤ cap ∧ cap ≤ maxLen ∧ zs.length = cap ∧ (∀ i, i < zs.length → w.cell? (x.add i) = some (.int k (zs.getD i 0))) ∧ ∀ n ∈ zs, (Lit.int k n).wf = true

theorem zzTake_val (a : Option Addr) (len cap : Nat) (pos b n over : Int) (k : Nat) (K v q m : Int) (w : World) (hK : K = k) (hb0 : 0 ≤ b) (hb1 : b < 18446744073709551616) (hk : k ≤ 32) (hn0 : (k : Int) ≤ n) (hn1 : n ≤ 64)
    (hv : v = b % 2 ^ k) (hq : q = b / 2 ^ k) (hm : m = n - k) :
    Calls Try.prog 6 #[.slice a len cap, .int .i64 pos, .int .u64 b, .int .u64 n, .int .i64 over, .int .u64 K] w fun e w' =>
      e = .returned (.tuple #[.int .u32 v, .slice a len cap, .int .i64 pos, .int .u64 q, .int .u64 m, .int .i64 over]) ∧ Below w.heap.size w w' := by
  subst hv hq hm hK
  exact zzTake_any a len cap pos b n over k w hb0 hb1 hk hn0 hn1

theorem t1 (b v : Int) (k : Nat) (hk : k ≤ 32) (hv : v = b % 2 ^ k) : IntKind.u64.wrap v < IntKind.u64.wrap (2 ^ k) := by
  have hp := pow_pos' k
  have hp32 : (2 : Int) ^ k ≤ 4294967296 := by rw [← pow32]; exact pow_le_of hk
  have h2 := Int.emod_nonneg b (show (2 : Int) ^ k ≠ 0 by omega)
  have h3 := Int.emod_lt_of_pos b hp
  rw [wrap_u64_in v (by omega) (by omega), wrap_u64_in _ (by omega) (by omega), hv]
  exact h3
theorem t2 (b v q : Int) (k : Nat) (h0 : 0 ≤ b) (h1 : b < 18446744073709551616) (hk : k ≤ 32) (hv : v = b % 2 ^ k) (hq : q = b / 2 ^ k) :
    (bits .or .u64 (IntKind.u64.wrap v) (IntKind.u64.wrap (q * 2 ^ k)) != b) = false := by
  have hp := pow_pos' k
  have h2 := Int.emod_nonneg b (show (2 : Int) ^ k ≠ 0 by omega)
  have h3 := Int.emod_lt_of_pos b hp
  have h4 := split_div b k
  have h5 : 0 ≤ b / 2 ^ k := Int.ediv_nonneg h0 (by omega)
  have h6 : 0 ≤ b / 2 ^ k * 2 ^ k := Int.mul_nonneg h5 (by omega)
  subst hv hq
  rw [wrap_u64_in _ h2 (by omega), wrap_u64_in _ h6 (by omega), join_u64 _ _ k h2 h3 h5 (by omega), h4]
  simp
theorem t3 (b q : Int) (k : Nat) (h0 : 0 ≤ b) (h1 : b < 18446744073709551616) (hk : k ≤ 32) (hq : q = b / 2 ^ k) : (q / 2 ^ (64 - k) != 0) = false := by
  rw [hq, high_zero b k h0 h1 (by omega)]; simp
theorem t4 (b v v1 v2 : Int) (a c : Nat) (hk : a + c ≤ 32) (hv : v = b % 2 ^ (a + c)) (h1 : v1 = b % 2 ^ a) (h2 : v2 = b / 2 ^ a % 2 ^ c) :
    (bits .or .u32 v1 (v2 * 2 ^ a % 4294967296) != v) = false := by
  have hpa := pow_pos' a
  have hpc := pow_pos' c
  have hpk := pow_pos' (a + c)
  have hp32 : (2 : Int) ^ (a + c) ≤ 4294967296 := by rw [← pow32]; exact pow_le_of hk
  have e1 := Int.emod_nonneg b (show (2 : Int) ^ a ≠ 0 by omega)
  have e2 := Int.emod_lt_of_pos b hpa
  have e3 := Int.emod_nonneg (b / 2 ^ a) (show (2 : Int) ^ c ≠ 0 by omega)
  have e4 := mod_split b a c
  have e5 := Int.emod_lt_of_pos b hpk
  have e6 : 0 ≤ b / 2 ^ a % 2 ^ c * 2 ^ a := Int.mul_nonneg e3 (by omega)
  subst hv h1 h2
  rw [Int.emod_eq_of_lt e6 (by omega), join_u32 _ _ a e1 e2 e3 (by omega), e4]
  simp

theorem chain2 {w a b : World} (h : Below w.heap.size w a) (k : Below a.heap.size a b) : Below w.heap.size w b := h.trans (k.mono h.size)
theorem chain6 {w a b c d e f : World} (h1 : Below w.heap.size w a) (h2 : Below a.heap.size a b) (h3 : Below b.heap.size b c) (h4 : Below c.heap.size c d) (h5 : Below d.heap.size d e) (h6 : Below e.heap.size e f) : Below w.heap.size w f :=
  chain2 (chain2 (chain2 (chain2 (chain2 h1 h2) h3) h4) h5) h6

set_option maxRecDepth 100000 in
set_option maxHeartbeats 4000000 in
theorem core (a0 : Option Addr) (len cap : Nat) (l : List Int) (pos b n over : Int) (a c : Nat) (w : World) (hl : l.length = len) (h1 : len ≤ 1048576) (hr : RowAt w a0 l)
    (hb0 : 0 ≤ b) (hb1 : b < 18446744073709551616) (hn0 : 0 ≤ n) (hn1 : n ≤ 64) (ha : a ≤ 32) (hc : c ≤ 32) :
    Calls Try.prog 3 #[.slice a0 len cap, .int .i64 pos, .int .u64 b, .int .u64 n, .int .i64 over, .int .u64 a, .int .u64 c] w fun e w' => e = .returned (.bool true) ∧ Below w.heap.size w w' := by
  have hneq := fun (w : World) (a : Option Addr) (n c : Nat) => run_neq_slice_nil_any (P := Try.prog) w 22 5 a n c 0 0 Try.underlying22
  obtain ⟨i0, hi, hz0, hz1, hz2⟩ := info_parts info5
  have hM : len ≤ maxLen := by unfold maxLen; omega
  have HL : Hid (l.length = len) := hl
  have HR : Hid (RowAt w a0 l) := hr
  clear hl hr
  go_enter Try.func3, Try.ntmps3
  go_upto_if 58 with (go_at_call 5; refine (bytes3_any _ _ _ _ _ _ _ _ _ hM _).mono ?_; rintro e w' ⟨rfl, hw⟩; subst w')
  go_cut [0] (fun s wx => ∃ (a' : Option Addr) (c' : Nat), s = .slice a' len c' ∧ (0 < len → ∃ b off, a' = some ⟨b, off, none⟩) ∧ Below w.heap.size w wx)
  case first =>
    cases a0 with
    | none =>
      go_wp2
      go_meet
      case rel => exact ⟨_, _, rfl, fun h => by obtain ⟨b, off, hb, _⟩ := HR.out (by rw [HL.out]; exact h); exact ⟨b, off, hb⟩, Below.refl _ _⟩
    | some x =>
      have HT : Hid (0 < l.length → ∀ y, some x = some y → y.block < w.heap.size) := lt_of_row HR.out
      go_wp2_with (first
        | (at_make; refine wpList_make_full _ rfl _ _ 22 rfl w.heap.size 5 i0 (.int .u8 0) 1 Try.underlying22 hi hz0 hz1 _ _ _ _ len rfl rfl rfl rfl (by rw [hz2]; omega) hM (Nat.le_refl _) ?_; intro w1 hown1 hgrow1; have hB1 := made_below hgrow1; obtain ⟨cur, hcur, hcl⟩ := made_cur hown1; have HCL : Hid (cur.length = len) := hcl; have HCR : Hid (w1.heap[w.heap.size]? = some (.cells cur.toArray 5 (0, 0))) := hcur; clear hcl hcur hown1 hgrow1)
        | (refine wpList_copy_splice rfl (.tmp 62) (.tmp 63) 22 22 rfl 5 Try.underlying22 size5 (some ⟨w.heap.size, 0, none⟩) (some x) len len len cap rfl rfl w.heap.size 0 cur 5 HCR.out (l.map (Value.int .u8)) (by rw [List.length_map, HL.out]; exact (Nat.min_self _).symm) (copy_src hB1 HT.out HR.out) (by rw [List.length_map, HL.out, HCL.out]; omega) (ints_one l) w.heap.size w hB1 (Nat.le_refl _) ?_; intro w2 HG2 hB2))
      go_meet
      case rel => exact ⟨_, _, rfl, fun _ => ⟨_, _, rfl⟩, hB2⟩
  case rest =>
    obtain ⟨z, hz⟩ : ∃ z, z = wc := ⟨_, rfl⟩
    subst hz
    obtain ⟨a', c', rfl, hsome, hbz⟩ := hcut
    have HS : Hid (0 < len → ∃ b off, a' = some ⟨b, off, none⟩) := hsome
    clear hsome HR HL hi hz0 hz1 hz2 hneq
    by_cases hk1 : a + c ≤ 32
    · by_cases hk2 : ((a : Int) + c) ≤ n
      · obtain ⟨v, hv⟩ : ∃ v, v = b % 2 ^ (a + c) := ⟨_, rfl⟩
        obtain ⟨q, hq⟩ : ∃ q, q = b / 2 ^ (a + c) := ⟨_, rfl⟩
        have HV : Hid (v = b % 2 ^ (a + c)) := hv
        have HQ : Hid (q = b / 2 ^ (a + c)) := hq
        have T1 := t1 b v (a + c) hk1 hv
        have T2 := t2 b v q (a + c) hb0 hb1 hk1 hv hq
        have T3 := t3 b q (a + c) hb0 hb1 hk1 hq
        obtain ⟨v1, hv1⟩ : ∃ v, v = b % 2 ^ a := ⟨_, rfl⟩
        obtain ⟨q1, hq1⟩ : ∃ q, q = b / 2 ^ a := ⟨_, rfl⟩
        obtain ⟨v2, hv2⟩ : ∃ v, v = b / 2 ^ a % 2 ^ c := ⟨_, rfl⟩
        have T4 := t4 b v v1 v2 a c hk1 hv hv1 hv2
        have HV1 : Hid (v1 = b % 2 ^ a) := hv1
        have HQ1 : Hid (q1 = b / 2 ^ a) := hq1
        have HV2 : Hid (v2 = q1 % 2 ^ c) := by rw [hq1]; exact hv2
        have HQ2 : Hid (q = q1 / 2 ^ c) := by rw [hq1, div_div]; exact hq
        have HQ1b : Hid (0 ≤ q1 ∧ q1 < 18446744073709551616) := by
          have hp := pow_pos' a
          have h5 : 0 ≤ b / 2 ^ a := Int.ediv_nonneg hb0 (by omega)
          have h6 : b / 2 ^ a ≤ b := Int.ediv_le_self _ hb0
          rw [hq1]; exact ⟨h5, by omega⟩
        clear hv hq hv1 hq1 hv2
        go_wp2_with fail
        refine (zzTake_val _ _ _ _ _ _ _ (a + c) _ v q (n - (a + c)) _ (by omega) hb0 hb1 hk1 (by omega) hn1 HV.out HQ.out (by omega)).mono ?_
        rintro e w3 ⟨rfl, hb3⟩
        go_wp2_with fail
        refine (same_any _ _ _ _ HS.out h1).mono ?_
        rintro e w4 ⟨rfl, hb4⟩
        go_wp2_with fail
        refine (zzTake_val _ _ _ _ _ _ _ a _ v1 q1 (n - a) _ rfl hb0 hb1 ha (by omega) hn1 HV1.out HQ1.out rfl).mono ?_
        rintro e w5 ⟨rfl, hb5⟩
        go_wp2_with fail
        refine (zzTake_val _ _ _ _ _ _ _ c _ v2 q (n - (a + c)) _ rfl HQ1b.out.1 HQ1b.out.2 hc (by omega) (by omega) HV2.out HQ2.out (by omega)).mono ?_
        rintro e w6 ⟨rfl, hb6⟩
        go_wp2_with fail
        refine (same_any _ _ _ _ HS.out h1).mono ?_
        rintro e w7 ⟨rfl, hb7⟩
        go_wp2_with fail
        go_ret
        exact ⟨rfl, chain6 hbz hb3 hb4 hb5 hb6 hb7⟩
      · have hk2' : n < (a : Int) + c := by omega
        go_wp2
        go_ret
        exact ⟨rfl, hbz⟩
    · have hk1' : 32 < a + c := by omega
      go_wp2
      go_ret
      exact ⟨rfl, hbz⟩

set_option maxRecDepth 100000 in
set_option maxHeartbeats 800000 in
/-- THE GUARDS: where one of them shuts the input out the law answers true at once. -/
theorem guards (a0 : Option Addr) (len cap : Nat) (l : List Int) (pos b n over a c : Int) (w : World) (hl : l.length = len) (hM : len ≤ maxLen) (hr : RowAt w a0 l)
    (hb0 : 0 ≤ b) (hb1 : b < 18446744073709551616) (hn0 : 0 ≤ n) (ha0 : 0 ≤ a) (hc0 : 0 ≤ c) :
    Calls Try.prog 3 #[.slice a0 len cap, .int .i64 pos, .int .u64 b, .int .u64 n, .int .i64 over, .int .u64 a, .int .u64 c] w fun e w' => e = .returned (.bool true) ∧ Below w.heap.size w w' := by
  by_cases h1 : len ≤ 1048576
  · by_cases h2 : n ≤ 64
    · by_cases h3 : a ≤ 32
      · by_cases h4 : c ≤ 32
        · obtain ⟨a', rfl⟩ := Int.eq_ofNat_of_zero_le ha0
          obtain ⟨c', rfl⟩ := Int.eq_ofNat_of_zero_le hc0
          exact core a0 len cap l pos b n over a' c' w hl h1 hr hb0 hb1 hn0 h2 (by omega) (by omega)
        · have h4' : 32 < c := by omega
          clear hl hr
          go_enter Try.func3, Try.ntmps3
          go_wp2_with (go_at_call 5; refine (bytes3_any _ _ _ _ _ _ _ _ _ hM _).mono ?_; rintro e w' ⟨rfl, hw⟩; subst w')
          go_ret
          exact ⟨rfl, Below.refl _ _⟩
      · have h3' : 32 < a := by omega
        clear hl hr
        go_enter Try.func3, Try.ntmps3
        go_wp2_with (go_at_call 5; refine (bytes3_any _ _ _ _ _ _ _ _ _ hM _).mono ?_; rintro e w' ⟨rfl, hw⟩; subst w')
        go_ret
        exact ⟨rfl, Below.refl _ _⟩
    · have h2' : 64 < n := by omega
      clear hl hr
      go_enter Try.func3, Try.ntmps3
      go_wp2_with (go_at_call 5; refine (bytes3_any _ _ _ _ _ _ _ _ _ hM _).mono ?_; rintro e w' ⟨rfl, hw⟩; subst w')
      go_ret
      exact ⟨rfl, Below.refl _ _⟩
  · clear hl hr
    go_enter Try.func3, Try.ntmps3
    go_wp2_with (go_at_call 5; refine (bytes3_any _ _ _ _ _ _ _ _ _ hM _).mono ?_; rintro e w' ⟨rfl, hw⟩; subst w')
    go_ret
    exact ⟨rfl, Below.refl _ _⟩

theorem wf_u64 {x : Int} (h : (Lit.int .u64 x).wf = true) : 0 ≤ x ∧ x < 18446744073709551616 := by
  have := bounds_u64 h
  omega

theorem walk (a0 : Option Addr) (len0 cap0 : Nat) (z0 : List Int) (a1 : Int) (a2 : Int) (a3 : Int) (a4 : Int) (a5 : Int) (a6 : Int) (w : World) (w0 : IsRow .u8 w a0 len0 cap0 z0) (w1 : (Lit.int .i64 a1).wf = true) (w2 : (Lit.int .u64 a2).wf = true) (w3 : (Lit.int .u64 a3).wf = true) (w4 : (Lit.int .i64 a4).wf = true) (w5 : (Lit.int .u64 a5).wf = true) (w6 : (Lit.int .u64 a6).wf = true) :
    Calls Try.prog 3 #[.slice a0 len0 cap0, .int .i64 a1, .int .u64 a2, .int .u64 a3, .int .i64 a4, .int .u64 a5, .int .u64 a6] w fun e w' => e = .returned (.bool true) ∧ Below w.heap.size w w' := by
  obtain ⟨hl, hM, hr⟩ := taken w0
  exact guards a0 len0 cap0 _ a1 a2 a3 a4 a5 a6 w hl hM hr (wf_u64 w2).1 (wf_u64 w2).2 (wf_u64 w3).1 (wf_u64 w5).1 (wf_u64 w6).1

/-! ### THE ROW's STEP: WRITTEN OUT: LEAVE IT -/
set_option maxRecDepth 100000 in
theorem lifted (os : Os) (started : os.Started) (H : Type) (enc : TypeId × Value → H) :
    ReturnsInHanded {} Try.checked os 3 .any (Rows.fnTakeSplitAtAnyCutSpec.pre6 enc Try.prog Try.f3 Rows.fnTakeSplitAtAnyCutRow.domain false) (Rows.fnTakeSplitAtAnyCutSpec.post enc Try.prog Try.f3 false true false false) := by
  refine returnsInHanded_of_change (C := Try.checked) own started (by kernel_rfl) Try.func3
    (ChangeSpec.witness6 (enc := enc) (C := Try.checked) false ⟨#[], #[.slice none 0 0, .int .i64 0, .int .u64 0, .int .u64 0, .int .i64 0, .int .u64 0, .int .u64 0], []⟩ 8 (by kernel_rfl) (by kernel_rfl) (by kernel_rfl) (by kernel_rfl)) ?_
  intro W base args ds gs before hval0 hW hcnd _
  have hval : ∀ (j : Nat) t v, Try.f3.params[j]? = some t → args[j]? = some v → Value.okWide Try.prog W .any base t v := hval0
  have hW' := hW
  obtain ⟨p, q, hA0, hV, rfl, hfz, hnd⟩ := hW
  have hA : DataW.TrodAll enc Try.prog W 0 (fun _ => true) true Try.f3.params.toList args.toList ds p := hA0
  rw [Try.params3] at hA hval
  obtain ⟨v0, vs0, d0, ds0, p0, q0, hargs, rfl, rfl, h0, r0⟩ := trodAll_cons hA
  obtain ⟨v1, vs1, d1, ds1, p1, q1, rfl, rfl, rfl, h1, r1⟩ := trodAll_cons r0
  obtain ⟨v2, vs2, d2, ds2, p2, q2, rfl, rfl, rfl, h2, r2⟩ := trodAll_cons r1
  obtain ⟨v3, vs3, d3, ds3, p3, q3, rfl, rfl, rfl, h3, r3⟩ := trodAll_cons r2
  obtain ⟨v4, vs4, d4, ds4, p4, q4, rfl, rfl, rfl, h4, r4⟩ := trodAll_cons r3
  obtain ⟨v5, vs5, d5, ds5, p5, q5, rfl, rfl, rfl, h5, r5⟩ := trodAll_cons r4
  obtain ⟨v6, vs6, d6, ds6, p6, q6, rfl, rfl, rfl, h6, r6⟩ := trodAll_cons r5
  obtain ⟨rfl, rfl, rfl⟩ := trodAll_nil r6
  obtain rfl : args = #[v0, v1, v2, v3, v4, v5, v6] := by cases args; simp_all
  obtain ⟨rfl, rfl⟩ := trodVars_none hV
  obtain ⟨a0, len0, cap0, rfl⟩ := okWide_slice Try.underlying22 (hval 0 22 v0 rfl rfl)
  have k0 := h0
  have lt0 : ∀ x ∈ p0, x.block < W.heap.size := by obtain ⟨m, hm⟩ := k0; exact DataW.trod_lt m _ _ _ hm
  obtain ⟨z0, w0⟩ : ∃ zs, IsRow .u8 W a0 len0 cap0 zs := by
    obtain ⟨fuel, hf⟩ := h0
    rcases open_ints Try.underlying22 Try.underlying5 (by kernel_rfl) hf with ⟨hcs, _⟩ | ⟨x, l, c, zs, hcs, _, hl, hm, hz, _, hcell, hwz⟩
    · simp [Value.cells] at hcs
      obtain ⟨rfl, rfl, rfl⟩ := hcs
      exact ⟨[], .inl ⟨rfl, rfl, rfl, rfl⟩⟩
    · simp [Value.cells] at hcs
      obtain ⟨rfl, rfl, rfl⟩ := hcs
      exact ⟨zs, .inr ⟨_, rfl, hl, hm, by simpa using hz, hcell, hwz⟩⟩
  obtain ⟨a1, rfl, rfl, rfl, w1⟩ := open_int Try.underlying3 (hval 1 3 v1 rfl rfl) h1
  obtain ⟨a2, rfl, rfl, rfl, w2⟩ := open_int Try.underlying23 (hval 2 23 v2 rfl rfl) h2
  obtain ⟨a3, rfl, rfl, rfl, w3⟩ := open_int Try.underlying24 (hval 3 24 v3 rfl rfl) h3
  obtain ⟨a4, rfl, rfl, rfl, w4⟩ := open_int Try.underlying3 (hval 4 3 v4 rfl rfl) h4
  obtain ⟨a5, rfl, rfl, rfl, w5⟩ := open_int Try.underlying24 (hval 5 24 v5 rfl rfl) h5
  obtain ⟨a6, rfl, rfl, rfl, w6⟩ := open_int Try.underlying24 (hval 6 24 v6 rfl rfl) h6
  clear hA0 hval0
  refine (walk a0 len0 cap0 z0 a1 a2 a3 a4 a5 a6 W w0 w1 w2 w3 w4 w5 w6).mono fun e W' ⟨he, bel⟩ => ?_
  subst he
  exact ⟨_, rfl, _, _, _, [], _, [], hW', trodAll_mk1 (shut_bool Try.underlying4 _), (trodAll_cons_mk (Below.trod laidOut (by kernel_rfl) (of_decide_eq_true (by kernel_rfl)) k0 bel lt0) (trodAll_cons_mk (shut_int Try.underlying3 w1) (trodAll_cons_mk (shut_int Try.underlying23 w2) (trodAll_cons_mk (shut_int Try.underlying24 w3) (trodAll_cons_mk (shut_int Try.underlying3 w4) (trodAll_cons_mk (shut_int Try.underlying24 w5) (trodAll_cons_mk (shut_int Try.underlying24 w6) trodAll_mk0))))))), rfl, bel.frame _, fun h => by cases h⟩

theorem over : Rows.fnTakeSplitAtAnyCutRow.holds Try.pinned (OpenSpec.ofChange Rows.fnTakeSplitAtAnyCutSpec) :=
  OpenClaim.holds_of_wide 3 Try.f3 rfl rfl rfl rfl rfl rfl rfl ⟨rfl, rfl, rfl, rfl, rfl⟩ rfl rfl rfl rfl rfl (by kernel_rfl) Try.func3 (by kernel_rfl)
    (of_decide_eq_true (by kernel_rfl)) (by unfold Func.isWrapper; first | (rw [if_pos (by decide +kernel)]; kernel_rfl) | (rw [if_neg (by decide +kernel)]; exact ⟨rfl, rfl⟩))
    (fun os started H enc _ => lifted os started H enc)

/-- THE STATEMENT -/
theorem proved : Rows.FnTakeSplitAtAnyCutSaid := over
end Go.Proofs.Qxb6619235a.fnTakeSplitAtAnyCut
