/-
  zzBytes_FnAppliedConnectLimitsKeyPutInAnywhere: where it answers true the lengths are bounded; what lay there lies unturned.
-/
import Derived.Test.Qxb6618931aFrame
namespace Go.Proofs.Qxb6618931a
open Go.RowKit
set_option linter.unusedVariables false

/-- The lengths that the law leans on. -/
def BytesOK (own l : Lim) (n : Nat) (K : Nat → Key) (sc : Option Addr) : Prop :=
  own.n2 ≤ 1048576 ∧ n ≤ 1048576 ∧ (∀ i, i < n → (K i).sc ≠ none → (K i).l.n2 ≤ 1048576) ∧ (sc ≠ none → l.n2 ≤ 1048576)
def BytesRet (P : Prop) (e : Ending) : Prop := ∃ bo, e = .returned (.bool bo) ∧ (bo = true → P)
theorem bytesF {P : Prop} : BytesRet P (.returned (.bool false)) := ⟨false, rfl, fun h => by cases h⟩
theorem bytesT {P : Prop} (h : P) : BytesRet P (.returned (.bool true)) := ⟨true, rfl, fun _ => h⟩

set_option maxRecDepth 100000 in
set_option maxHeartbeats 8000000 in
theorem bytes_any (issuer : ByteArray) (own : Lim) (a : Option Addr) (n c : Nat) (K : Nat → Key) (p : Int) (key : ByteArray) (sc : Option Addr) (l : Lim) (w : World) (hn : n ≤ 9223372036854775807) (ho : LimOK w own) (hk : KeysAt w a n K) (hs : ScopeOK w sc l) :
    Calls Try.prog 4 #[.string issuer, .agg #[.slice own.a1 own.n1 own.c1, .slice own.a2 own.n2 own.c2, .string own.loc, .slice own.a3 own.n3 own.c3, .bool own.bt], .slice a n c, .int .i64 p, .agg #[.string key, .pointer sc]] w fun e w' => BytesRet (BytesOK own l n K sc) e ∧ Below w.heap.size w w' := by
  obtain ⟨a1, n1, c1, a2, n2, c2, T, loc, a3, n3, c3, bt⟩ := own
  simp only
  obtain ⟨W, hW⟩ : ∃ W, W = (w.alloc (.cells #[.slice a1 n1 c1, .slice a2 n2 c2, .string loc, .slice a3 n3 c3, .bool bt] 25)).alloc (.cells #[.string key, .pointer sc] 29) := ⟨_, rfl⟩
  have hB : Below w.heap.size w W := by rw [hW]; exact ((Below.refl _ _).alloc (Nat.le_refl _) _).alloc (by simp) _
  have HB : Hid (Below w.heap.size w W) := hB
  have HO : Hid (LimOK W ⟨a1, n1, c1, a2, n2, c2, T, loc, a3, n3, c3, bt⟩) := ho.below hB
  have HKS : Hid (KeysAt W a n K) := hk.below hB
  have HSO : Hid (ScopeOK W sc l) := hs.below hB
  have q0 : W.cell? ⟨w.heap.size, 0, none⟩ = some (.slice a1 n1 c1) := by rw [hW]; simp
  have q1 : W.cell? ⟨w.heap.size, 1, none⟩ = some (.slice a2 n2 c2) := by rw [hW]; simp
  have q2 : W.cell? ⟨w.heap.size, 2, none⟩ = some (.string loc) := by rw [hW]; simp
  have q3 : W.cell? ⟨w.heap.size, 3, none⟩ = some (.slice a3 n3 c3) := by rw [hW]; simp
  have r0 : W.cell? ⟨w.heap.size + 1, 0, none⟩ = some (.string key) := by rw [hW]; simp
  have r1 : W.cell? ⟨w.heap.size + 1, 1, none⟩ = some (.pointer sc) := by rw [hW]; simp
  have hm1 : n1 ≤ 9223372036854775807 := ho.m1
  have hm2 : n2 ≤ 9223372036854775807 := ho.m2
  have hm3 : n3 ≤ 9223372036854775807 := ho.m3
  have HW : Hid (W = (w.alloc (.cells #[.slice a1 n1 c1, .slice a2 n2 c2, .string loc, .slice a3 n3 c3, .bool bt] 25)).alloc (.cells #[.string key, .pointer sc] 29)) := hW
  clear hW ho hk hs hB
  go_enter Try.func4, Try.ntmps4
  go_upto_block 0 with fail
  all_goals try (go_ret; exact ⟨bytesF, by rw [← HW.out]; exact HB.out⟩)
  rw [← HW.out]
  clear HW
  refine wp_cut (InFr (Kept a n c w.heap.size undef W)) ?_ ?_
  rotate_left
  · as_aux_lemma =>
    intro J' KK' hJ' hK'
    go_wp2_with fail
    refine wp_loop_ghost_k (fun g => InFr (Turn a n c w.heap.size undef W 12 n1 g)) n1 ?_ ?_
    · exact InFr.mk rfl ⟨0, _, Nat.zero_add _, rfl, rfl, rfl, rfl, rfl, rfl, rfl⟩
    · rintro gk12 _ wr ⟨f12, ⟨k12, y12, hg12, h2, h6, h9, h11, h15, hs, hwr⟩, ha⟩
      unfold Fr at ha
      rw [h2, h6, h9, h11, h15, hs] at ha
      subst ha hwr
      clear h2 h6 h9 h11 h15 hs
      intro J12 KK12 hJ12 hK12
      by_cases hlt12 : k12 < n1
      · as_aux_lemma =>
        have g1 : (k12 : Int) < (n1 : Int) := by omega
        obtain ⟨b, off, ha, hc⟩ := HO.out.r1 (by exact Nat.lt_of_le_of_lt (Nat.zero_le _) hlt12)
        obtain ⟨st, hst⟩ := hc k12 hlt12
        simp only at ha
        subst ha
        clear hc
        have HG12 : Hid (k12 + gk12 = n1) := hg12
        clear hg12
        go_wp2
        all_goals try (go_ret; exact ⟨bytesF, HB.out⟩)
        refine Handed.intro (n1 - (k12 + 1)) (by have := HG12.out; omega) (hJ12 _ _ _ (InFr.mk rfl ⟨k12 + 1, _, by omega, rfl, rfl, rfl, rfl, rfl, ?_, rfl⟩))
        show Value.int .i64 _ = Value.int .i64 _
        go_num
      · as_aux_lemma =>
        have g1 : ¬ (k12 : Int) < (n1 : Int) := by omega
        clear hlt12 hg12
        go_wp2_with fail
        exact hJ' _ _ (InFr.mk rfl ⟨_, rfl, rfl, rfl, rfl, rfl, rfl⟩)
  rintro _ wc ⟨f1, ⟨z12, h2, h6, h9, h11, h15, hwc⟩, ha⟩
  unfold Fr at ha
  rw [h2, h6, h9, h11, h15] at ha
  subst ha hwc
  clear h2 h6 h9 h11 h15
  go_upto_block 2 with fail
  all_goals try (go_ret; exact ⟨bytesF, HB.out⟩)
  have HN2 : Hid (n2 ≤ 1048576) := (by omega : n2 ≤ 1048576)
  refine wp_cut (InFr (Kept a n c w.heap.size undef W)) ?_ ?_
  rotate_left
  · as_aux_lemma =>
    intro J' KK' hJ' hK'
    go_wp2_with fail
    refine wp_loop_ghost_k (fun g => InFr (Turn a n c w.heap.size undef W 13 n2 g)) n2 ?_ ?_
    · exact InFr.mk rfl ⟨0, _, Nat.zero_add _, rfl, rfl, rfl, rfl, rfl, rfl, rfl⟩
    · rintro gk13 _ wr ⟨f13, ⟨k13, y13, hg13, h2, h6, h9, h11, h15, hs, hwr⟩, ha⟩
      unfold Fr at ha
      rw [h2, h6, h9, h11, h15, hs] at ha
      subst ha hwr
      clear h2 h6 h9 h11 h15 hs
      intro J13 KK13 hJ13 hK13
      by_cases hlt13 : k13 < n2
      · as_aux_lemma =>
        have g1 : (k13 : Int) < (n2 : Int) := by omega
        obtain ⟨b, off, ha, hc⟩ := HO.out.r2 (by exact Nat.lt_of_le_of_lt (Nat.zero_le _) hlt13)
        obtain ⟨k0, k1⟩ := hc k13 hlt13
        obtain ⟨s0, hs0⟩ : ∃ s, s = (T k13).1 := ⟨_, rfl⟩
        obtain ⟨s1, hs1⟩ : ∃ s, s = (T k13).2 := ⟨_, rfl⟩
        replace k0 : W.cell? ⟨b, off + k13 * 2, none⟩ = some (.string s0) := by rw [hs0]; exact k0
        replace k1 : W.cell? ⟨b, off + k13 * 2 + 1, none⟩ = some (.string s1) := by rw [hs1]; exact k1
        simp only at ha
        subst ha
        clear hc hs0 hs1
        have HG13 : Hid (k13 + gk13 = n2) := hg13
        clear hg13
        go_wp2
        all_goals try (go_ret; exact ⟨bytesF, HB.out⟩)
        refine Handed.intro (n2 - (k13 + 1)) (by have := HG13.out; omega) (hJ13 _ _ _ (InFr.mk rfl ⟨k13 + 1, _, by omega, rfl, rfl, rfl, rfl, rfl, ?_, rfl⟩))
        show Value.int .i64 _ = Value.int .i64 _
        go_num
      · as_aux_lemma =>
        have g1 : ¬ (k13 : Int) < (n2 : Int) := by omega
        clear hlt13 hg13
        go_wp2_with fail
        exact hJ' _ _ (InFr.mk rfl ⟨_, rfl, rfl, rfl, rfl, rfl, rfl⟩)
  rintro _ wc ⟨f2, ⟨z13, h2, h6, h9, h11, h15, hwc⟩, ha⟩
  unfold Fr at ha
  rw [h2, h6, h9, h11, h15] at ha
  subst ha hwc
  clear h2 h6 h9 h11 h15
  go_upto_block 4 with fail
  all_goals try (go_ret; exact ⟨bytesF, HB.out⟩)
  refine wp_cut (InFr (Kept a n c w.heap.size undef W)) ?_ ?_
  rotate_left
  · as_aux_lemma =>
    intro J' KK' hJ' hK'
    go_wp2_with fail
    refine wp_loop_ghost_k (fun g => InFr (Turn a n c w.heap.size undef W 14 n3 g)) n3 ?_ ?_
    · exact InFr.mk rfl ⟨0, _, Nat.zero_add _, rfl, rfl, rfl, rfl, rfl, rfl, rfl⟩
    · rintro gk14 _ wr ⟨f14, ⟨k14, y14, hg14, h2, h6, h9, h11, h15, hs, hwr⟩, ha⟩
      unfold Fr at ha
      rw [h2, h6, h9, h11, h15, hs] at ha
      subst ha hwr
      clear h2 h6 h9 h11 h15 hs
      intro J14 KK14 hJ14 hK14
      by_cases hlt14 : k14 < n3
      · as_aux_lemma =>
        have g1 : (k14 : Int) < (n3 : Int) := by omega
        obtain ⟨b, off, ha, hc⟩ := HO.out.r3 (by exact Nat.lt_of_le_of_lt (Nat.zero_le _) hlt14)
        obtain ⟨st, hst⟩ := hc k14 hlt14
        simp only at ha
        subst ha
        clear hc
        have HG14 : Hid (k14 + gk14 = n3) := hg14
        clear hg14
        go_wp2
        all_goals try (go_ret; exact ⟨bytesF, HB.out⟩)
        refine Handed.intro (n3 - (k14 + 1)) (by have := HG14.out; omega) (hJ14 _ _ _ (InFr.mk rfl ⟨k14 + 1, _, by omega, rfl, rfl, rfl, rfl, rfl, ?_, rfl⟩))
        show Value.int .i64 _ = Value.int .i64 _
        go_num
      · as_aux_lemma =>
        have g1 : ¬ (k14 : Int) < (n3 : Int) := by omega
        clear hlt14 hg14
        go_wp2_with fail
        exact hJ' _ _ (InFr.mk rfl ⟨_, rfl, rfl, rfl, rfl, rfl, rfl⟩)
  rintro _ wc ⟨f3, ⟨z14, h2, h6, h9, h11, h15, hwc⟩, ha⟩
  unfold Fr at ha
  rw [h2, h6, h9, h11, h15] at ha
  subst ha hwc
  clear h2 h6 h9 h11 h15
  go_upto_block 6 with fail
  all_goals try (go_ret; exact ⟨bytesF, HB.out⟩)
  have HNN : Hid (n ≤ 1048576) := (by omega : n ≤ 1048576)
  refine wp_cut (InFr (fun f w' => (∃ v15, Kept a n c w.heap.size v15 W f w') ∧ ∀ j, j < n → (K j).sc ≠ none → (K j).l.n2 ≤ 1048576)) ?_ ?_
  rotate_left
  · as_aux_lemma =>
    intro J' KK' hJ' hK'
    go_wp2_with fail
    refine wp_loop_ghost_k (fun g => InFr (fun f w' => ∃ k : Nat, k + g = n ∧ Kept a n c w.heap.size (.int .i64 k) W f w' ∧ ∀ j, j < k → (K j).sc ≠ none → (K j).l.n2 ≤ 1048576)) n ?_ ?_
    · exact InFr.mk rfl ⟨0, Nat.zero_add _, ⟨_, rfl, rfl, rfl, rfl, rfl, rfl⟩, fun j hj => absurd hj (by omega)⟩
    · rintro gk _ wr ⟨f6, ⟨k, hg, ⟨y, h2, h6, h9, h11, h15, hwr⟩, hdone⟩, ha⟩
      unfold Fr at ha
      rw [h2, h6, h9, h11, h15] at ha
      subst ha hwr
      clear h2 h6 h9 h11 h15
      intro J KK hJ hK
      have HG : Hid (k + gk = n) := hg
      have HD : Hid (∀ j, j < k → (K j).sc ≠ none → (K j).l.n2 ≤ 1048576) := hdone
      have hk : k ≤ n := by omega
      clear hdone hg
      by_cases hlt : k < n
      · as_aux_lemma =>
        have g1 : (k : Int) < (n : Int) := by omega
        obtain ⟨b0, o0, ha, hc⟩ := HKS.out.row (by omega)
        obtain ⟨e0, e1⟩ := hc k hlt
        have hso := HKS.out.ok k hlt
        obtain ⟨κ, hκ⟩ : ∃ κ, κ = K k := ⟨_, rfl⟩
        rw [← hκ] at e0 e1 hso
        have HK : Hid (κ = K k) := hκ
        obtain ⟨ke, ks, lm⟩ := κ
        simp only at e0 e1 hso
        subst ha
        clear hc hκ
        cases ks with
        | none =>
          go_wp2
          all_goals try (go_ret; exact ⟨bytesF, HB.out⟩)
          refine Handed.intro (n - (k + 1)) (by have := HG.out; omega) (hJ _ _ _ (InFr.mk rfl ⟨k + 1, by omega, ⟨_, rfl, rfl, rfl, rfl, ?_, rfl⟩, fun j hj => by by_cases e : j = k; (subst e; rw [← HK.out]; exact fun h => absurd rfl h); exact HD.out j (by omega)⟩))
          show Value.int .i64 _ = Value.int .i64 _
          go_num
        | some sd =>
          obtain ⟨bs, os, rfl, hat, hok⟩ := hso sd rfl
          obtain ⟨la1, ln1, lc1, la2, ln2, lc2, lT, lloc, la3, ln3, lc3, lbt⟩ := lm
          have x0 := hat.c0
          have x1 := hat.c1
          have x2 := hat.c2
          have x3 := hat.c3
          simp only at x0 x1 x2 x3
          have lm1 : ln1 ≤ 9223372036854775807 := hok.m1
          have lm2 : ln2 ≤ 9223372036854775807 := hok.m2
          have lm3 : ln3 ≤ 9223372036854775807 := hok.m3
          have HOK : Hid (LimOK W ⟨la1, ln1, lc1, la2, ln2, lc2, lT, lloc, la3, ln3, lc3, lbt⟩) := hok
          clear hat hok hso
          go_upto_block 8 with fail
          all_goals try (go_ret; exact ⟨bytesF, HB.out⟩)
          refine wp_cut (InFr (Kept (some ⟨b0, o0, none⟩) n c w.heap.size (.int .i64 k) W)) ?_ ?_
          rotate_left
          · as_aux_lemma =>
            intro J' KK' hJ' hK'
            go_wp2_with fail
            refine wp_loop_ghost_k (fun g => InFr (Turn (some ⟨b0, o0, none⟩) n c w.heap.size (.int .i64 k) W 16 ln1 g)) ln1 ?_ ?_
            · exact InFr.mk rfl ⟨0, _, Nat.zero_add _, rfl, rfl, rfl, rfl, rfl, rfl, rfl⟩
            · rintro gk16 _ wr ⟨f16, ⟨k16, y16, hg16, h2, h6, h9, h11, h15, hs, hwr⟩, ha⟩
              unfold Fr at ha
              rw [h2, h6, h9, h11, h15, hs] at ha
              subst ha hwr
              clear h2 h6 h9 h11 h15 hs
              intro J16 KK16 hJ16 hK16
              by_cases hlt16 : k16 < ln1
              · as_aux_lemma =>
                have g1 : (k16 : Int) < (ln1 : Int) := by omega
                obtain ⟨b, off, ha, hc⟩ := HOK.out.r1 (by exact Nat.lt_of_le_of_lt (Nat.zero_le _) hlt16)
                obtain ⟨st, hst⟩ := hc k16 hlt16
                simp only at ha
                subst ha
                clear hc
                have HG16 : Hid (k16 + gk16 = ln1) := hg16
                clear hg16
                go_wp2
                all_goals try (go_ret; exact ⟨bytesF, HB.out⟩)
                refine Handed.intro (ln1 - (k16 + 1)) (by have := HG16.out; omega) (hJ16 _ _ _ (InFr.mk rfl ⟨k16 + 1, _, by omega, rfl, rfl, rfl, rfl, rfl, ?_, rfl⟩))
                show Value.int .i64 _ = Value.int .i64 _
                go_num
              · as_aux_lemma =>
                have g1 : ¬ (k16 : Int) < (ln1 : Int) := by omega
                clear hlt16 hg16
                go_wp2_with fail
                exact hJ' _ _ (InFr.mk rfl ⟨_, rfl, rfl, rfl, rfl, rfl, rfl⟩)
          rintro _ wc ⟨f7, ⟨z16, h2, h6, h9, h11, h15, hwc⟩, ha⟩
          unfold Fr at ha
          rw [h2, h6, h9, h11, h15] at ha
          subst ha hwc
          clear h2 h6 h9 h11 h15
          go_upto_block 10 with fail
          all_goals try (go_ret; exact ⟨bytesF, HB.out⟩)
          have HL2 : Hid (ln2 ≤ 1048576) := (by omega : ln2 ≤ 1048576)
          refine wp_cut (InFr (Kept (some ⟨b0, o0, none⟩) n c w.heap.size (.int .i64 k) W)) ?_ ?_
          rotate_left
          · as_aux_lemma =>
            intro J' KK' hJ' hK'
            go_wp2_with fail
            refine wp_loop_ghost_k (fun g => InFr (Turn (some ⟨b0, o0, none⟩) n c w.heap.size (.int .i64 k) W 17 ln2 g)) ln2 ?_ ?_
            · exact InFr.mk rfl ⟨0, _, Nat.zero_add _, rfl, rfl, rfl, rfl, rfl, rfl, rfl⟩
            · rintro gk17 _ wr ⟨f17, ⟨k17, y17, hg17, h2, h6, h9, h11, h15, hs, hwr⟩, ha⟩
              unfold Fr at ha
              rw [h2, h6, h9, h11, h15, hs] at ha
              subst ha hwr
              clear h2 h6 h9 h11 h15 hs
              intro J17 KK17 hJ17 hK17
              by_cases hlt17 : k17 < ln2
              · as_aux_lemma =>
                have g1 : (k17 : Int) < (ln2 : Int) := by omega
                obtain ⟨b, off, ha, hc⟩ := HOK.out.r2 (by exact Nat.lt_of_le_of_lt (Nat.zero_le _) hlt17)
                obtain ⟨k0, k1⟩ := hc k17 hlt17
                obtain ⟨s0, hs0⟩ : ∃ s, s = (lT k17).1 := ⟨_, rfl⟩
                obtain ⟨s1, hs1⟩ : ∃ s, s = (lT k17).2 := ⟨_, rfl⟩
                replace k0 : W.cell? ⟨b, off + k17 * 2, none⟩ = some (.string s0) := by rw [hs0]; exact k0
                replace k1 : W.cell? ⟨b, off + k17 * 2 + 1, none⟩ = some (.string s1) := by rw [hs1]; exact k1
                simp only at ha
                subst ha
                clear hc hs0 hs1
                have HG17 : Hid (k17 + gk17 = ln2) := hg17
                clear hg17
                go_wp2
                all_goals try (go_ret; exact ⟨bytesF, HB.out⟩)
                refine Handed.intro (ln2 - (k17 + 1)) (by have := HG17.out; omega) (hJ17 _ _ _ (InFr.mk rfl ⟨k17 + 1, _, by omega, rfl, rfl, rfl, rfl, rfl, ?_, rfl⟩))
                show Value.int .i64 _ = Value.int .i64 _
                go_num
              · as_aux_lemma =>
                have g1 : ¬ (k17 : Int) < (ln2 : Int) := by omega
                clear hlt17 hg17
                go_wp2_with fail
                exact hJ' _ _ (InFr.mk rfl ⟨_, rfl, rfl, rfl, rfl, rfl, rfl⟩)
          rintro _ wc ⟨f8, ⟨z17, h2, h6, h9, h11, h15, hwc⟩, ha⟩
          unfold Fr at ha
          rw [h2, h6, h9, h11, h15] at ha
          subst ha hwc
          clear h2 h6 h9 h11 h15
          go_upto_block 12 with fail
          all_goals try (go_ret; exact ⟨bytesF, HB.out⟩)
          go_wp2_with fail
          refine wp_loop_ghost_k (fun g => InFr (Turn (some ⟨b0, o0, none⟩) n c w.heap.size (.int .i64 k) W 18 ln3 g)) ln3 ?_ ?_
          · exact InFr.mk rfl ⟨0, _, Nat.zero_add _, rfl, rfl, rfl, rfl, rfl, rfl, rfl⟩
          · rintro gk18 _ wr ⟨f18, ⟨k18, y18, hg18, h2, h6, h9, h11, h15, hs, hwr⟩, ha⟩
            unfold Fr at ha
            rw [h2, h6, h9, h11, h15, hs] at ha
            subst ha hwr
            clear h2 h6 h9 h11 h15 hs
            intro J18 KK18 hJ18 hK18
            by_cases hlt18 : k18 < ln3
            · as_aux_lemma =>
              have g1 : (k18 : Int) < (ln3 : Int) := by omega
              obtain ⟨b, off, ha, hc⟩ := HOK.out.r3 (by exact Nat.lt_of_le_of_lt (Nat.zero_le _) hlt18)
              obtain ⟨st, hst⟩ := hc k18 hlt18
              simp only at ha
              subst ha
              clear hc
              have HG18 : Hid (k18 + gk18 = ln3) := hg18
              clear hg18
              go_wp2
              all_goals try (go_ret; exact ⟨bytesF, HB.out⟩)
              refine Handed.intro (ln3 - (k18 + 1)) (by have := HG18.out; omega) (hJ18 _ _ _ (InFr.mk rfl ⟨k18 + 1, _, by omega, rfl, rfl, rfl, rfl, rfl, ?_, rfl⟩))
              show Value.int .i64 _ = Value.int .i64 _
              go_num
            · as_aux_lemma =>
              have g1 : ¬ (k18 : Int) < (ln3 : Int) := by omega
              clear hlt18 hg18
              go_wp2
              all_goals try (go_ret; exact ⟨bytesF, HB.out⟩)
              refine Handed.intro (n - (k + 1)) (by have := HG.out; omega) (hJ _ _ _ (InFr.mk rfl ⟨k + 1, by omega, ⟨_, rfl, rfl, rfl, rfl, ?_, rfl⟩, fun j hj => by by_cases e : j = k; (subst e; rw [← HK.out]; exact fun _ => HL2.out); exact HD.out j (by omega)⟩))
              show Value.int .i64 _ = Value.int .i64 _
              go_num
      · as_aux_lemma =>
        have hge : k = n := by omega
        subst hge
        have g1 : ¬ (k : Int) < (k : Int) := by omega
        clear hlt hk
        go_wp2_with fail
        exact hJ' _ _ (InFr.mk rfl ⟨⟨_, _, rfl, rfl, rfl, rfl, rfl, rfl⟩, HD.out⟩)
  rintro _ wc ⟨f6, ⟨⟨v15, z15, h2, h6, h9, h11, h15, hwc⟩, hdone⟩, ha⟩
  unfold Fr at ha
  rw [h2, h6, h9, h11, h15] at ha
  subst ha hwc
  have HD : Hid (∀ j, j < n → (K j).sc ≠ none → (K j).l.n2 ≤ 1048576) := hdone
  clear h2 h6 h9 h11 h15 hdone
  cases sc with
  | none =>
    go_wp2
    all_goals try (go_ret; exact ⟨bytesF, HB.out⟩)
    go_ret
    exact ⟨bytesT ⟨HN2.out, HNN.out, HD.out, fun h => absurd rfl h⟩, HB.out⟩
  | some sd =>
    obtain ⟨bs, os, rfl, hat, hok⟩ := HSO.out sd rfl
    obtain ⟨la1, ln1, lc1, la2, ln2, lc2, lT, lloc, la3, ln3, lc3, lbt⟩ := l
    have x0 := hat.c0
    have x1 := hat.c1
    have x2 := hat.c2
    have x3 := hat.c3
    simp only at x0 x1 x2 x3
    have lm1 : ln1 ≤ 9223372036854775807 := hok.m1
    have lm2 : ln2 ≤ 9223372036854775807 := hok.m2
    have lm3 : ln3 ≤ 9223372036854775807 := hok.m3
    have HOK : Hid (LimOK W ⟨la1, ln1, lc1, la2, ln2, lc2, lT, lloc, la3, ln3, lc3, lbt⟩) := hok
    clear hat hok
    go_upto_block 14 with fail
    all_goals try (go_ret; exact ⟨bytesF, HB.out⟩)
    refine wp_cut (InFr (Kept a n c w.heap.size v15 W)) ?_ ?_
    rotate_left
    · as_aux_lemma =>
      intro J' KK' hJ' hK'
      go_wp2_with fail
      refine wp_loop_ghost_k (fun g => InFr (Turn a n c w.heap.size v15 W 19 ln1 g)) ln1 ?_ ?_
      · exact InFr.mk rfl ⟨0, _, Nat.zero_add _, rfl, rfl, rfl, rfl, rfl, rfl, rfl⟩
      · rintro gk19 _ wr ⟨f19, ⟨k19, y19, hg19, h2, h6, h9, h11, h15, hs, hwr⟩, ha⟩
        unfold Fr at ha
        rw [h2, h6, h9, h11, h15, hs] at ha
        subst ha hwr
        clear h2 h6 h9 h11 h15 hs
        intro J19 KK19 hJ19 hK19
        by_cases hlt19 : k19 < ln1
        · as_aux_lemma =>
          have g1 : (k19 : Int) < (ln1 : Int) := by omega
          obtain ⟨b, off, ha, hc⟩ := HOK.out.r1 (by exact Nat.lt_of_le_of_lt (Nat.zero_le _) hlt19)
          obtain ⟨st, hst⟩ := hc k19 hlt19
          simp only at ha
          subst ha
          clear hc
          have HG19 : Hid (k19 + gk19 = ln1) := hg19
          clear hg19
          go_wp2
          all_goals try (go_ret; exact ⟨bytesF, HB.out⟩)
          refine Handed.intro (ln1 - (k19 + 1)) (by have := HG19.out; omega) (hJ19 _ _ _ (InFr.mk rfl ⟨k19 + 1, _, by omega, rfl, rfl, rfl, rfl, rfl, ?_, rfl⟩))
          show Value.int .i64 _ = Value.int .i64 _
          go_num
        · as_aux_lemma =>
          have g1 : ¬ (k19 : Int) < (ln1 : Int) := by omega
          clear hlt19 hg19
          go_wp2_with fail
          exact hJ' _ _ (InFr.mk rfl ⟨_, rfl, rfl, rfl, rfl, rfl, rfl⟩)
    rintro _ wc ⟨f9, ⟨z19, h2, h6, h9, h11, h15, hwc⟩, ha⟩
    unfold Fr at ha
    rw [h2, h6, h9, h11, h15] at ha
    subst ha hwc
    clear h2 h6 h9 h11 h15
    go_upto_block 16 with fail
    all_goals try (go_ret; exact ⟨bytesF, HB.out⟩)
    have HL2 : Hid (ln2 ≤ 1048576) := (by omega : ln2 ≤ 1048576)
    refine wp_cut (InFr (Kept a n c w.heap.size v15 W)) ?_ ?_
    rotate_left
    · as_aux_lemma =>
      intro J' KK' hJ' hK'
      go_wp2_with fail
      refine wp_loop_ghost_k (fun g => InFr (Turn a n c w.heap.size v15 W 20 ln2 g)) ln2 ?_ ?_
      · exact InFr.mk rfl ⟨0, _, Nat.zero_add _, rfl, rfl, rfl, rfl, rfl, rfl, rfl⟩
      · rintro gk20 _ wr ⟨f20, ⟨k20, y20, hg20, h2, h6, h9, h11, h15, hs, hwr⟩, ha⟩
        unfold Fr at ha
        rw [h2, h6, h9, h11, h15, hs] at ha
        subst ha hwr
        clear h2 h6 h9 h11 h15 hs
        intro J20 KK20 hJ20 hK20
        by_cases hlt20 : k20 < ln2
        · as_aux_lemma =>
          have g1 : (k20 : Int) < (ln2 : Int) := by omega
          obtain ⟨b, off, ha, hc⟩ := HOK.out.r2 (by exact Nat.lt_of_le_of_lt (Nat.zero_le _) hlt20)
          obtain ⟨k0, k1⟩ := hc k20 hlt20
          obtain ⟨s0, hs0⟩ : ∃ s, s = (lT k20).1 := ⟨_, rfl⟩
          obtain ⟨s1, hs1⟩ : ∃ s, s = (lT k20).2 := ⟨_, rfl⟩
          replace k0 : W.cell? ⟨b, off + k20 * 2, none⟩ = some (.string s0) := by rw [hs0]; exact k0
          replace k1 : W.cell? ⟨b, off + k20 * 2 + 1, none⟩ = some (.string s1) := by rw [hs1]; exact k1
          simp only at ha
          subst ha
          clear hc hs0 hs1
          have HG20 : Hid (k20 + gk20 = ln2) := hg20
          clear hg20
          go_wp2
          all_goals try (go_ret; exact ⟨bytesF, HB.out⟩)
          refine Handed.intro (ln2 - (k20 + 1)) (by have := HG20.out; omega) (hJ20 _ _ _ (InFr.mk rfl ⟨k20 + 1, _, by omega, rfl, rfl, rfl, rfl, rfl, ?_, rfl⟩))
          show Value.int .i64 _ = Value.int .i64 _
          go_num
        · as_aux_lemma =>
          have g1 : ¬ (k20 : Int) < (ln2 : Int) := by omega
          clear hlt20 hg20
          go_wp2_with fail
          exact hJ' _ _ (InFr.mk rfl ⟨_, rfl, rfl, rfl, rfl, rfl, rfl⟩)
    rintro _ wc ⟨f10, ⟨z20, h2, h6, h9, h11, h15, hwc⟩, ha⟩
    unfold Fr at ha
    rw [h2, h6, h9, h11, h15] at ha
    subst ha hwc
    clear h2 h6 h9 h11 h15
    go_upto_block 18 with fail
    all_goals try (go_ret; exact ⟨bytesF, HB.out⟩)
    go_wp2_with fail
    refine wp_loop_ghost_k (fun g => InFr (Turn a n c w.heap.size v15 W 21 ln3 g)) ln3 ?_ ?_
    · exact InFr.mk rfl ⟨0, _, Nat.zero_add _, rfl, rfl, rfl, rfl, rfl, rfl, rfl⟩
    · rintro gk21 _ wr ⟨f21, ⟨k21, y21, hg21, h2, h6, h9, h11, h15, hs, hwr⟩, ha⟩
      unfold Fr at ha
      rw [h2, h6, h9, h11, h15, hs] at ha
      subst ha hwr
      clear h2 h6 h9 h11 h15 hs
      intro J21 KK21 hJ21 hK21
      by_cases hlt21 : k21 < ln3
      · as_aux_lemma =>
        have g1 : (k21 : Int) < (ln3 : Int) := by omega
        obtain ⟨b, off, ha, hc⟩ := HOK.out.r3 (by exact Nat.lt_of_le_of_lt (Nat.zero_le _) hlt21)
        obtain ⟨st, hst⟩ := hc k21 hlt21
        simp only at ha
        subst ha
        clear hc
        have HG21 : Hid (k21 + gk21 = ln3) := hg21
        clear hg21
        go_wp2
        all_goals try (go_ret; exact ⟨bytesF, HB.out⟩)
        refine Handed.intro (ln3 - (k21 + 1)) (by have := HG21.out; omega) (hJ21 _ _ _ (InFr.mk rfl ⟨k21 + 1, _, by omega, rfl, rfl, rfl, rfl, rfl, ?_, rfl⟩))
        show Value.int .i64 _ = Value.int .i64 _
        go_num
      · as_aux_lemma =>
        have g1 : ¬ (k21 : Int) < (ln3 : Int) := by omega
        clear hlt21 hg21
        go_wp2
        all_goals try (go_ret; exact ⟨bytesF, HB.out⟩)
        go_ret
        exact ⟨bytesT ⟨HN2.out, HNN.out, HD.out, fun _ => HL2.out⟩, HB.out⟩
end Go.Proofs.Qxb6618931a
