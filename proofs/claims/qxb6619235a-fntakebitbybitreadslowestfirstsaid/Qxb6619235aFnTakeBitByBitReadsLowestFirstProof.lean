/-
  THE PROOF OF 'Rows.FnTakeBitByBitReadsLowestFirstSaid' ('example.com/unifold/unifold/zzlaws_inflate_b1.FnTakeBitByBitReadsLowestFirst'). The frame was written by the kit's program (proof-skeleton.mjs); the walk is typed by hand.
-/
import Derived.Test.Qxb6619235aRows
import Derived.WalkKit
import Derived.ProofKit
import Derived.OpenShut
import Derived.ShutString
import Derived.ChangeOld
import Derived.Below
import Derived.WalkSpells
import Derived.Deep.DeepCutAuto
import Derived.Test.Qxb6619235aTakeCopy
namespace Go.Proofs.Qxb6619235a.fnTakeBitByBitReadsLowestFirst
open Go.ChangeShapes Go.WideShapes Go.ChangeAt Go.RowKit
open Go.ChangeMaps (open_string shut_string)
set_option linter.unusedVariables false

theorem own : ownKnob Try.prog.godebug = none := by kernel_rfl
theorem laidOut : laidOutB Try.prog = true := by kernel_rfl

/-- WHAT THE WALK IS TOLD OF A SLICE OF INTEGERS THAT CAME IN: it is nil; or it leads to a row of 'cap' cells, the numbers 'zs' (the first 'len' are its elements, the rest its spare room), each fitting its kind. -/
def IsRow (k : IntKind) (w : World) (a : Option Addr) (len cap : Nat) (zs : List Int) : Prop :=
  (a = none ∧ len = 0 ∧ cap = 0 ∧ zs = []) ∨
  ∃ x, a = some x ∧ len ≤ cap ∧ cap ≤ maxLen ∧ zs.length = cap ∧ (∀ i, i < zs.length → w.cell? (x.add i) = some (.int k (zs.getD i 0))) ∧ ∀ n ∈ zs, (Lit.int k n).wf = true

theorem zzTake_val (a : Option Addr) (len cap : Nat) (pos b n over : Int) (k : Nat) (K v q m : Int) (w : World) (hK : K = k) (hb0 : 0 ≤ b) (hb1 : b < 18446744073709551616) (hk : k ≤ 32) (hn0 : (k : Int) ≤ n) (hn1 : n ≤ 64)
    (hv : v = b % 2 ^ k) (hq : q = b / 2 ^ k) (hm : m = n - k) :
    Calls Try.prog 6 #[.slice a len cap, .int .i64 pos, .int .u64 b, .int .u64 n, .int .i64 over, .int .u64 K] w fun e w' =>
      e = .returned (.tuple #[.int .u32 v, .slice a len cap, .int .i64 pos, .int .u64 q, .int .u64 m, .int .i64 over]) ∧ Below w.heap.size w w' := by
  subst hv hq hm hK
  exact zzTake_any a len cap pos b n over k w hb0 hb1 hk hn0 hn1

theorem chain2 {w a b : World} (h : Below w.heap.size w a) (k : Below a.heap.size a b) : Below w.heap.size w b := h.trans (k.mono h.size)
theorem s1 (b y x : Int) (t : Nat) (h0 : 0 ≤ y) (h1 : y < 18446744073709551616) (hy : y = b / 2 ^ t) (hx : x = y % 2 ^ 1) : (IntKind.u64.wrap x != bits .and .u64 (b / 2 ^ t) 1) = false := by
  have h := mask_u64 y 1 h0 h1 (by omega)
  have e : (2 : Int) ^ 1 - 1 = 1 := by decide
  have e2 : (2 : Int) ^ 1 = 2 := by decide
  rw [e, e2] at h
  rw [e2] at hx
  rw [← hy, h, wrap_u64_in x (by omega) (by omega), hx]
  simp
theorem s2 (b y x r : Int) (t : Nat) (ht : t + 1 ≤ 32) (hy : y = b / 2 ^ t) (hx : x = y % 2 ^ 1) (hr : r = b % 2 ^ t) :
    bits .or .u64 r (IntKind.u64.wrap (IntKind.u64.wrap x * 2 ^ t)) = b % 2 ^ (t + 1) := by
  have hpa := pow_pos' t
  have hpk := pow_pos' (t + 1)
  have hp32 : (2 : Int) ^ (t + 1) ≤ 4294967296 := by rw [← pow32]; exact pow_le_of ht
  have e1 := Int.emod_nonneg b (show (2 : Int) ^ t ≠ 0 by omega)
  have e2 := Int.emod_lt_of_pos b hpa
  have e3 := Int.emod_nonneg (b / 2 ^ t) (show (2 : Int) ^ 1 ≠ 0 by decide)
  have e4 := mod_split b t 1
  have e5 := Int.emod_lt_of_pos b hpk
  have e6 : 0 ≤ b / 2 ^ t % 2 ^ 1 * 2 ^ t := Int.mul_nonneg e3 (by omega)
  have e7 : b / 2 ^ t % 2 ^ 1 < 2 := by have := Int.emod_lt_of_pos (b / 2 ^ t) (show (0 : Int) < 2 ^ 1 by decide); omega
  subst hx hr
  rw [hy, wrap_u64_in _ e3 (by omega), wrap_u64_in _ e6 (by omega), join_u64 _ _ t e1 e2 e3 (by omega), e4]
theorem s3 (b v r : Int) (k : Nat) (hk : k ≤ 32) (hv : v = b % 2 ^ k) (hr : r = b % 2 ^ k) : (IntKind.u64.wrap v != r) = false := by
  have hp := pow_pos' k
  have hp32 : (2 : Int) ^ k ≤ 4294967296 := by rw [← pow32]; exact pow_le_of hk
  have h2 := Int.emod_nonneg b (show (2 : Int) ^ k ≠ 0 by omega)
  have h3 := Int.emod_lt_of_pos b hp
  rw [wrap_u64_in v (by omega) (by omega), hv, hr]
  simp
theorem s4 (b y : Int) (t : Nat) (hy : y = b / 2 ^ t) : y / 2 = b / 2 ^ (t + 1) := by
  rw [hy, ← div_div b t 1]; rfl

set_option maxRecDepth 100000 in
set_option maxHeartbeats 4000000 in
theorem core (a0 : Option Addr) (len cap : Nat) (l : List Int) (pos b n over : Int) (k : Nat) (w : World) (hl : l.length = len) (h1 : len ≤ 1048576) (hr : RowAt w a0 l)
    (hb0 : 0 ≤ b) (hb1 : b < 18446744073709551616) (hn1 : n ≤ 64) (hk : k ≤ 32) (hkn : (k : Int) ≤ n) :
    Calls Try.prog 4 #[.slice a0 len cap, .int .i64 pos, .int .u64 b, .int .u64 n, .int .i64 over, .int .u64 k] w fun e w' => e = .returned (.bool true) ∧ Below w.heap.size w w' := by
  have hneq := fun (w : World) (a : Option Addr) (n c : Nat) => run_neq_slice_nil_any (P := Try.prog) w 22 5 a n c 0 0 Try.underlying22
  obtain ⟨i0, hi, hz0, hz1, hz2⟩ := info_parts info5
  have hM : len ≤ maxLen := by unfold maxLen; omega
  have HL : Hid (l.length = len) := hl
  have HR : Hid (RowAt w a0 l) := hr
  clear hl hr
  go_enter Try.func4, Try.ntmps4
  go_upto_if 56 with (go_at_call 8; refine (bytes4_any _ _ _ _ _ _ _ _ hM _).mono ?_; rintro e w' ⟨rfl, hw⟩; subst w')
  go_cut [0] (fun s wx => ∃ (a' : Option Addr) (c' : Nat), s = .slice a' len c' ∧ (0 < len → ∃ b off, a' = some ⟨b, off, none⟩) ∧ Below w.heap.size w wx)
  case first =>
    cases a0 with
    | none =>
      go_wp2
      go_meet
      case rel => exact ⟨_, _, rfl, fun h => by obtain ⟨b, off, hb, _⟩ := HR.out (by rw [HL.out]; exact h); exact ⟨b, off, hb⟩, Below.refl _ _⟩
    | some x =>
      have HT : Hid (0 < l.length → ∀ y, some x = some y → y.block < w.heap.size) := lt_of_row HR.out
      go_wp2_with (first
        | (at_make; refine wpList_make_full _ rfl _ _ 22 rfl w.heap.size 5 i0 (.int .u8 0) 1 Try.underlying22 hi hz0 hz1 _ _ _ _ len rfl rfl rfl rfl (by rw [hz2]; omega) hM (Nat.le_refl _) ?_; intro w1 hown1 hgrow1; have hB1 := made_below hgrow1; obtain ⟨cur, hcur, hcl⟩ := made_cur hown1; have HCL : Hid (cur.length = len) := hcl; have HCR : Hid (w1.heap[w.heap.size]? = some (.cells cur.toArray 5 (0, 0))) := hcur; clear hcl hcur hown1 hgrow1)
        | (refine wpList_copy_splice rfl (.tmp 60) (.tmp 61) 22 22 rfl 5 Try.underlying22 size5 (some ⟨w.heap.size, 0, none⟩) (some x) len len len cap rfl rfl w.heap.size 0 cur 5 HCR.out (l.map (Value.int .u8)) (by rw [List.length_map, HL.out]; exact (Nat.min_self _).symm) (copy_src hB1 HT.out HR.out) (by rw [List.length_map, HL.out, HCL.out]; omega) (ints_one l) w.heap.size w hB1 (Nat.le_refl _) ?_; intro w2 HG2 hB2))
      go_meet
      case rel => exact ⟨_, _, rfl, fun _ => ⟨_, _, rfl⟩, hB2⟩
  case rest =>
    obtain ⟨z, hz⟩ : ∃ z, z = wc := ⟨_, rfl⟩
    subst hz
    obtain ⟨a', c', rfl, hsome, hbz⟩ := hcut
    have HS : Hid (0 < len → ∃ b off, a' = some ⟨b, off, none⟩) := hsome
    clear hsome HR HL hi hz0 hz1 hz2 hneq
    obtain ⟨v, hv⟩ : ∃ v, v = b % 2 ^ k := ⟨_, rfl⟩
    obtain ⟨q, hq⟩ : ∃ q, q = b / 2 ^ k := ⟨_, rfl⟩
    have HV : Hid (v = b % 2 ^ k) := hv
    have HQ : Hid (q = b / 2 ^ k) := hq
    clear hv hq
    go_wp2_with fail
    refine (zzTake_val _ _ _ _ _ _ _ k _ v q (n - k) _ rfl hb0 hb1 hk hkn hn1 HV.out HQ.out rfl).mono ?_
    rintro e w3 ⟨rfl, hb3⟩
    go_wp2_with fail
    go_loopw [20, 21, 22, 23, 24, 25, 26] (fun acc cs cp cb cn co i wr => ∃ (t : Nat) (r y : Int), t ≤ k ∧ i = .int .u64 t ∧ acc = .int .u64 r ∧ Hid (r = b % 2 ^ t) ∧ cs = .slice a' len c' ∧ cp = .int .i64 pos ∧ cb = .int .u64 y ∧ Hid (y = b / 2 ^ t) ∧ cn = .int .u64 (n - t) ∧ co = .int .i64 over ∧ Below w3.heap.size w3 wr) (fun _ _ _ _ _ _ i _ => k - (intOf i).toNat)
    case atStart => exact ⟨0, 0, b, Nat.zero_le _, rfl, rfl, by show (0 : Int) = b % 2 ^ 0; simp [Int.emod_one], rfl, rfl, rfl, by show b = b / 2 ^ 0; simp, by simp, rfl, Below.refl _ _⟩
    case round =>
      obtain ⟨t, r, y, ht, rfl, rfl, HRr, rfl, rfl, rfl, HY, rfl, rfl, hBr⟩ := hrel
      by_cases hlt : t < k
      · obtain ⟨x, hx⟩ : ∃ x, x = y % 2 ^ 1 := ⟨_, rfl⟩
        have HX : Hid (x = y % 2 ^ 1) := hx
        have HYb : Hid (0 ≤ y ∧ y < 18446744073709551616) := by
          have hp := pow_pos' t
          have h5 : 0 ≤ b / 2 ^ t := Int.ediv_nonneg hb0 (by omega)
          have h6 : b / 2 ^ t ≤ b := Int.ediv_le_self _ hb0
          rw [HY.out]; exact ⟨h5, by omega⟩
        have S1 := s1 b y x t HYb.out.1 HYb.out.2 HY.out hx
        have S2 : Hid (bits .or .u64 r (IntKind.u64.wrap (IntKind.u64.wrap x * 2 ^ t)) = b % 2 ^ (t + 1)) := s2 b y x r t (by omega) HY.out hx HRr.out
        clear hx
        go_wp2_with fail
        refine (zzTake_val _ _ _ _ _ _ _ 1 _ x (y / 2 ^ 1) (n - (t + 1)) _ rfl HYb.out.1 HYb.out.2 (by omega) (by omega) (by omega) HX.out rfl (by omega)).mono ?_
        rintro e w4 ⟨rfl, hb4⟩
        go_wp2_with fail
        go_roundw
        case rel => exact ⟨t + 1, _, _, by omega, by go_num, rfl, S2.out, rfl, rfl, rfl, s4 b y t HY.out, by go_num, rfl, chain2 hBr hb4⟩
        case measure => simp [intOf]; omega
      · have hge : k ≤ t := by omega
        obtain rfl : t = k := by omega
        have hyq : y = q := by rw [HY.out, HQ.out]
        subst hyq
        have S3 := s3 b v r t hk HV.out HRr.out
        go_wp2_with fail
        refine (same_any _ _ _ _ HS.out h1).mono ?_
        rintro e w4 ⟨rfl, hb4⟩
        go_wp2_with fail
        refine (same_any _ _ _ _ HS.out h1).mono ?_
        rintro e w5 ⟨rfl, hb5⟩
        go_wp2_with fail
        go_ret
        exact ⟨rfl, chain2 (chain2 (chain2 (chain2 hbz hb3) hBr) hb4) hb5⟩

set_option maxRecDepth 100000 in
set_option maxHeartbeats 800000 in
/-- THE GUARDS: where one of them shuts the input out the law answers true at once. -/
theorem guards (a0 : Option Addr) (len cap : Nat) (l : List Int) (pos b n over k : Int) (w : World) (hl : l.length = len) (hM : len ≤ maxLen) (hr : RowAt w a0 l)
    (hb0 : 0 ≤ b) (hb1 : b < 18446744073709551616) (hk0 : 0 ≤ k) :
    Calls Try.prog 4 #[.slice a0 len cap, .int .i64 pos, .int .u64 b, .int .u64 n, .int .i64 over, .int .u64 k] w fun e w' => e = .returned (.bool true) ∧ Below w.heap.size w w' := by
  by_cases h1 : len ≤ 1048576
  · by_cases h2 : n ≤ 64
    · by_cases h3 : k ≤ 32
      · by_cases h4 : k ≤ n
        · obtain ⟨k', rfl⟩ := Int.eq_ofNat_of_zero_le hk0
          exact core a0 len cap l pos b n over k' w hl h1 hr hb0 hb1 h2 (by omega) h4
        · have h4' : n < k := by omega
          clear hl hr
          go_enter Try.func4, Try.ntmps4
          go_wp2_with (go_at_call 8; refine (bytes4_any _ _ _ _ _ _ _ _ hM _).mono ?_; rintro e w' ⟨rfl, hw⟩; subst w')
          go_ret
          exact ⟨rfl, Below.refl _ _⟩
      · have h3' : 32 < k := by omega
        clear hl hr
        go_enter Try.func4, Try.ntmps4
        go_wp2_with (go_at_call 8; refine (bytes4_any _ _ _ _ _ _ _ _ hM _).mono ?_; rintro e w' ⟨rfl, hw⟩; subst w')
        go_ret
        exact ⟨rfl, Below.refl _ _⟩
    · have h2' : 64 < n := by omega
      clear hl hr
      go_enter Try.func4, Try.ntmps4
      go_wp2_with (go_at_call 8; refine (bytes4_any _ _ _ _ _ _ _ _ hM _).mono ?_; rintro e w' ⟨rfl, hw⟩; subst w')
      go_ret
      exact ⟨rfl, Below.refl _ _⟩
  · clear hl hr
    go_enter Try.func4, Try.ntmps4
    go_wp2_with (go_at_call 8; refine (bytes4_any _ _ _ _ _ _ _ _ hM _).mono ?_; rintro e w' ⟨rfl, hw⟩; subst w')
    go_ret
    exact ⟨rfl, Below.refl _ _⟩

theorem wf_u64 {x : Int} (h : (Lit.int .u64 x).wf = true) : 0 ≤ x ∧ x < 18446744073709551616 := by
  have := bounds_u64 h
  omega

theorem walk (a0 : Option Addr) (len0 cap0 : Nat) (z0 : List Int) (a1 : Int) (a2 : Int) (a3 : Int) (a4 : Int) (a5 : Int) (w : World) (w0 : IsRow .u8 w a0 len0 cap0 z0) (w1 : (Lit.int .i64 a1).wf = true) (w2 : (Lit.int .u64 a2).wf = true) (w3 : (Lit.int .u64 a3).wf = true) (w4 : (Lit.int .i64 a4).wf = true) (w5 : (Lit.int .u64 a5).wf = true) :
    Calls Try.prog 4 #[.slice a0 len0 cap0, .int .i64 a1, .int .u64 a2, .int .u64 a3, .int .i64 a4, .int .u64 a5] w fun e w' => e = .returned (.bool true) ∧ Below w.heap.size w w' := by
  obtain ⟨hl, hM, hr⟩ := taken w0
  exact guards a0 len0 cap0 _ a1 a2 a3 a4 a5 w hl hM hr (wf_u64 w2).1 (wf_u64 w2).2 (wf_u64 w5).1

/-! ### THE ROW's STEP: WRITTEN OUT: LEAVE IT -/
set_option maxRecDepth 100000 in
theorem lifted (os : Os) (started : os.Started) (H : Type) (enc : TypeId × Value → H) :
    ReturnsInHanded {} Try.checked os 4 .any (Rows.fnTakeBitByBitReadsLowestFirstSpec.pre6 enc Try.prog Try.f4 Rows.fnTakeBitByBitReadsLowestFirstRow.domain false) (Rows.fnTakeBitByBitReadsLowestFirstSpec.post enc Try.prog Try.f4 false true false false) := by
  refine returnsInHanded_of_change (C := Try.checked) own started (by kernel_rfl) Try.func4
    (ChangeSpec.witness6 (enc := enc) (C := Try.checked) false ⟨#[], #[.slice none 0 0, .int .i64 0, .int .u64 0, .int .u64 0, .int .i64 0, .int .u64 0], []⟩ 8 (by kernel_rfl) (by kernel_rfl) (by kernel_rfl) (by kernel_rfl)) ?_
  intro W base args ds gs before hval0 hW hcnd _
  have hval : ∀ (j : Nat) t v, Try.f4.params[j]? = some t → args[j]? = some v → Value.okWide Try.prog W .any base t v := hval0
  have hW' := hW
  obtain ⟨p, q, hA0, hV, rfl, hfz, hnd⟩ := hW
  have hA : DataW.TrodAll enc Try.prog W 0 (fun _ => true) true Try.f4.params.toList args.toList ds p := hA0
  rw [Try.params4] at hA hval
  obtain ⟨v0, vs0, d0, ds0, p0, q0, hargs, rfl, rfl, h0, r0⟩ := trodAll_cons hA
  obtain ⟨v1, vs1, d1, ds1, p1, q1, rfl, rfl, rfl, h1, r1⟩ := trodAll_cons r0
  obtain ⟨v2, vs2, d2, ds2, p2, q2, rfl, rfl, rfl, h2, r2⟩ := trodAll_cons r1
  obtain ⟨v3, vs3, d3, ds3, p3, q3, rfl, rfl, rfl, h3, r3⟩ := trodAll_cons r2
  obtain ⟨v4, vs4, d4, ds4, p4, q4, rfl, rfl, rfl, h4, r4⟩ := trodAll_cons r3
  obtain ⟨v5, vs5, d5, ds5, p5, q5, rfl, rfl, rfl, h5, r5⟩ := trodAll_cons r4
  obtain ⟨rfl, rfl, rfl⟩ := trodAll_nil r5
  obtain rfl : args = #[v0, v1, v2, v3, v4, v5] := by cases args; simp_all
  obtain ⟨rfl, rfl⟩ := trodVars_none hV
  obtain ⟨a0, len0, cap0, rfl⟩ := okWide_slice Try.underlying22 (hval 0 22 v0 rfl rfl)
  have k0 := h0
  have lt0 : ∀ x ∈ p0, x.block < W.heap.size := by obtain ⟨m, hm⟩ := k0; exact DataW.trod_lt m _ _ _ hm
  obtain ⟨z0, w0⟩ : ∃ zs, IsRow .u8 W a0 len0 cap0 zs := by
    obtain ⟨fuel, hf⟩ := h0
    rcases open_ints Try.underlying22 Try.underlying5 (by kernel_rfl) hf with ⟨hcs, _⟩ | ⟨x, l, c, zs, hcs, _, hl, hm, hz, _, hcell, hwz⟩
    · simp [Value.cells] at hcs
      obtain ⟨rfl, rfl, rfl⟩ := hcs
      exact ⟨[], .inl ⟨rfl, rfl, rfl, rfl⟩⟩
    · simp [Value.cells] at hcs
      obtain ⟨rfl, rfl, rfl⟩ := hcs
      exact ⟨zs, .inr ⟨_, rfl, hl, hm, by simpa using hz, hcell, hwz⟩⟩
  obtain ⟨a1, rfl, rfl, rfl, w1⟩ := open_int Try.underlying3 (hval 1 3 v1 rfl rfl) h1
  obtain ⟨a2, rfl, rfl, rfl, w2⟩ := open_int Try.underlying23 (hval 2 23 v2 rfl rfl) h2
  obtain ⟨a3, rfl, rfl, rfl, w3⟩ := open_int Try.underlying24 (hval 3 24 v3 rfl rfl) h3
  obtain ⟨a4, rfl, rfl, rfl, w4⟩ := open_int Try.underlying3 (hval 4 3 v4 rfl rfl) h4
  obtain ⟨a5, rfl, rfl, rfl, w5⟩ := open_int Try.underlying24 (hval 5 24 v5 rfl rfl) h5
  clear hA0 hval0
  refine (walk a0 len0 cap0 z0 a1 a2 a3 a4 a5 W w0 w1 w2 w3 w4 w5).mono fun e W' ⟨he, bel⟩ => ?_
  subst he
  exact ⟨_, rfl, _, _, _, [], _, [], hW', trodAll_mk1 (shut_bool Try.underlying4 _), (trodAll_cons_mk (Below.trod laidOut (by kernel_rfl) (of_decide_eq_true (by kernel_rfl)) k0 bel lt0) (trodAll_cons_mk (shut_int Try.underlying3 w1) (trodAll_cons_mk (shut_int Try.underlying23 w2) (trodAll_cons_mk (shut_int Try.underlying24 w3) (trodAll_cons_mk (shut_int Try.underlying3 w4) (trodAll_cons_mk (shut_int Try.underlying24 w5) trodAll_mk0)))))), rfl, bel.frame _, fun h => by cases h⟩

theorem over : Rows.fnTakeBitByBitReadsLowestFirstRow.holds Try.pinned (OpenSpec.ofChange Rows.fnTakeBitByBitReadsLowestFirstSpec) :=
  OpenClaim.holds_of_wide 4 Try.f4 rfl rfl rfl rfl rfl rfl rfl ⟨rfl, rfl, rfl, rfl, rfl⟩ rfl rfl rfl rfl rfl (by kernel_rfl) Try.func4 (by kernel_rfl)
    (of_decide_eq_true (by kernel_rfl)) (by unfold Func.isWrapper; first | (rw [if_pos (by decide +kernel)]; kernel_rfl) | (rw [if_neg (by decide +kernel)]; exact ⟨rfl, rfl⟩))
    (fun os started H enc _ => lifted os started H enc)

/-- THE STATEMENT -/
theorem proved : Rows.FnTakeBitByBitReadsLowestFirstSaid := over
end Go.Proofs.Qxb6619235a.fnTakeBitByBitReadsLowestFirst
