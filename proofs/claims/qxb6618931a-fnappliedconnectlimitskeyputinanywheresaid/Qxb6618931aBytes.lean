/-
  zzBytes_FnAppliedConnectLimitsKeyPutInAnywhere: where it answers true the lengths are bounded; what lay there lies unturned.
-/
import Derived.Test.Qxb6618931aLims
namespace Go.Proofs.Qxb6618931a
open Go.RowKit
set_option linter.unusedVariables false

/-- The lengths that the law leans on. -/
def BytesOK (own l : Lim) (n : Nat) (K : Nat → Key) (sc : Option Addr) : Prop :=
  own.n2 ≤ 1048576 ∧ n ≤ 1048576 ∧ (∀ i, i < n → (K i).sc ≠ none → (K i).l.n2 ≤ 1048576) ∧ (sc ≠ none → l.n2 ≤ 1048576)
def BytesRet (P : Prop) (e : Ending) : Prop := ∃ bo, e = .returned (.bool bo) ∧ (bo = true → P)
theorem bytesF {P : Prop} : BytesRet P (.returned (.bool false)) := ⟨false, rfl, fun h => by cases h⟩
theorem bytesT {P : Prop} (h : P) : BytesRet P (.returned (.bool true)) := ⟨true, rfl, fun _ => h⟩

set_option maxRecDepth 100000 in
set_option maxHeartbeats 8000000 in
theorem bytes_any (issuer : ByteArray) (own : Lim) (a : Option Addr) (n c : Nat) (K : Nat → Key) (p : Int) (key : ByteArray) (sc : Option Addr) (l : Lim) (w : World) (hn : n ≤ 9223372036854775807) (ho : LimOK w own) (hk : KeysAt w a n K) (hs : ScopeOK w sc l) :
    Calls Try.prog 4 #[.string issuer, .agg #[.slice own.a1 own.n1 own.c1, .slice own.a2 own.n2 own.c2, .string own.loc, .slice own.a3 own.n3 own.c3, .bool own.bt], .slice a n c, .int .i64 p, .agg #[.string key, .pointer sc]] w fun e w' => BytesRet (BytesOK own l n K sc) e ∧ Below w.heap.size w w' := by
  obtain ⟨a1, n1, c1, a2, n2, c2, T, loc, a3, n3, c3, bt⟩ := own
  simp only
  obtain ⟨W, hW⟩ : ∃ W, W = (w.alloc (.cells #[.slice a1 n1 c1, .slice a2 n2 c2, .string loc, .slice a3 n3 c3, .bool bt] 25)).alloc (.cells #[.string key, .pointer sc] 29) := ⟨_, rfl⟩
  have hB : Below w.heap.size w W := by rw [hW]; exact ((Below.refl _ _).alloc (Nat.le_refl _) _).alloc (by simp) _
  have HB : Hid (Below w.heap.size w W) := hB
  have HO : Hid (LimOK W ⟨a1, n1, c1, a2, n2, c2, T, loc, a3, n3, c3, bt⟩) := ho.below hB
  have HKS : Hid (KeysAt W a n K) := hk.below hB
  have HSO : Hid (ScopeOK W sc l) := hs.below hB
  have q0 : W.cell? ⟨w.heap.size, 0, none⟩ = some (.slice a1 n1 c1) := by rw [hW]; simp
  have q1 : W.cell? ⟨w.heap.size, 1, none⟩ = some (.slice a2 n2 c2) := by rw [hW]; simp
  have q2 : W.cell? ⟨w.heap.size, 2, none⟩ = some (.string loc) := by rw [hW]; simp
  have q3 : W.cell? ⟨w.heap.size, 3, none⟩ = some (.slice a3 n3 c3) := by rw [hW]; simp
  have r0 : W.cell? ⟨w.heap.size + 1, 0, none⟩ = some (.string key) := by rw [hW]; simp
  have r1 : W.cell? ⟨w.heap.size + 1, 1, none⟩ = some (.pointer sc) := by rw [hW]; simp
  have hm1 : n1 ≤ 9223372036854775807 := ho.m1
  have hm2 : n2 ≤ 9223372036854775807 := ho.m2
  have hm3 : n3 ≤ 9223372036854775807 := ho.m3
  have HW : Hid (W = (w.alloc (.cells #[.slice a1 n1 c1, .slice a2 n2 c2, .string loc, .slice a3 n3 c3, .bool bt] 25)).alloc (.cells #[.string key, .pointer sc] 29)) := hW
  clear hW ho hk hs hB
  go_enter Try.func4, Try.ntmps4
  go_wp2
  all_goals try (go_ret; exact ⟨bytesF, by rw [← HW.out]; exact HB.out⟩)
  rw [← HW.out]
  clear HW
  go_loop [11, 12] (fun z i => ∃ (k : Nat) (y : Int), k ≤ n1 ∧ i = .int .i64 k ∧ z = .int .i64 y) (fun _ i => n1 - (intOf i).toNat)
  case atStart => exact ⟨0, _, Nat.zero_le _, rfl, rfl⟩
  case round =>
    obtain ⟨k12, y12, hk12, rfl, rfl⟩ := hrel
    by_cases hlt12 : k12 < n1
    · as_aux_lemma =>
      have g1 : (k12 : Int) < (n1 : Int) := by omega
      obtain ⟨b, off, ha, hc⟩ := HO.out.r1 (by exact Nat.lt_of_le_of_lt (Nat.zero_le _) hlt12)
      obtain ⟨st, hst⟩ := hc k12 hlt12
      simp only at ha
      subst ha
      clear hc
      go_wp2
      all_goals try (go_ret; exact ⟨bytesF, HB.out⟩)
      go_round
      case rel => exact ⟨k12 + 1, _, by omega, by go_num, rfl⟩
      case measure => simp [intOf]; omega
    · as_aux_lemma =>
      have g1 : ¬ (k12 : Int) < (n1 : Int) := by omega
      clear hlt12
      go_wp2
      all_goals try (go_ret; exact ⟨bytesF, HB.out⟩)
      have HN2 : Hid (n2 ≤ 1048576) := (by omega : n2 ≤ 1048576)
      go_loop [11, 13] (fun z i => ∃ (k : Nat) (y : Int), k ≤ n2 ∧ i = .int .i64 k ∧ z = .int .i64 y) (fun _ i => n2 - (intOf i).toNat)
      case atStart => exact ⟨0, _, Nat.zero_le _, rfl, rfl⟩
      case round =>
        obtain ⟨k13, y13, hk13, rfl, rfl⟩ := hrel
        by_cases hlt13 : k13 < n2
        · as_aux_lemma =>
          have g1 : (k13 : Int) < (n2 : Int) := by omega
          obtain ⟨b, off, ha, hc⟩ := HO.out.r2 (by exact Nat.lt_of_le_of_lt (Nat.zero_le _) hlt13)
          obtain ⟨k0, k1⟩ := hc k13 hlt13
          obtain ⟨s0, hs0⟩ : ∃ s, s = (T k13).1 := ⟨_, rfl⟩
          obtain ⟨s1, hs1⟩ : ∃ s, s = (T k13).2 := ⟨_, rfl⟩
          replace k0 : W.cell? ⟨b, off + k13 * 2, none⟩ = some (.string s0) := by rw [hs0]; exact k0
          replace k1 : W.cell? ⟨b, off + k13 * 2 + 1, none⟩ = some (.string s1) := by rw [hs1]; exact k1
          simp only at ha
          subst ha
          clear hc hs0 hs1
          go_wp2
          all_goals try (go_ret; exact ⟨bytesF, HB.out⟩)
          go_round
          case rel => exact ⟨k13 + 1, _, by omega, by go_num, rfl⟩
          case measure => simp [intOf]; omega
        · as_aux_lemma =>
          have g1 : ¬ (k13 : Int) < (n2 : Int) := by omega
          clear hlt13
          go_wp2
          all_goals try (go_ret; exact ⟨bytesF, HB.out⟩)
          go_loop [11, 14] (fun z i => ∃ (k : Nat) (y : Int), k ≤ n3 ∧ i = .int .i64 k ∧ z = .int .i64 y) (fun _ i => n3 - (intOf i).toNat)
          case atStart => exact ⟨0, _, Nat.zero_le _, rfl, rfl⟩
          case round =>
            obtain ⟨k14, y14, hk14, rfl, rfl⟩ := hrel
            by_cases hlt14 : k14 < n3
            · as_aux_lemma =>
              have g1 : (k14 : Int) < (n3 : Int) := by omega
              obtain ⟨b, off, ha, hc⟩ := HO.out.r3 (by exact Nat.lt_of_le_of_lt (Nat.zero_le _) hlt14)
              obtain ⟨st, hst⟩ := hc k14 hlt14
              simp only at ha
              subst ha
              clear hc
              go_wp2
              all_goals try (go_ret; exact ⟨bytesF, HB.out⟩)
              go_round
              case rel => exact ⟨k14 + 1, _, by omega, by go_num, rfl⟩
              case measure => simp [intOf]; omega
            · as_aux_lemma =>
              have g1 : ¬ (k14 : Int) < (n3 : Int) := by omega
              clear hlt14
              go_wp2
              all_goals try (go_ret; exact ⟨bytesF, HB.out⟩)
              have HNN : Hid (n ≤ 1048576) := (by omega : n ≤ 1048576)
              go_loop [11, 15, 16, 17, 18] (fun z i _ _ _ => ∃ (k : Nat) (y : Int), k ≤ n ∧ i = .int .i64 k ∧ z = .int .i64 y ∧ ∀ j, j < k → (K j).sc ≠ none → (K j).l.n2 ≤ 1048576) (fun _ i _ _ _ => n - (intOf i).toNat)
              case atStart => exact ⟨0, _, Nat.zero_le _, rfl, rfl, fun j hj => absurd hj (by omega)⟩
              case round =>
                obtain ⟨k, y, hk, rfl, rfl, hdone⟩ := hrel
                have HD : Hid (∀ j, j < k → (K j).sc ≠ none → (K j).l.n2 ≤ 1048576) := hdone
                clear hdone
                by_cases hlt : k < n
                · as_aux_lemma =>
                  have g1 : (k : Int) < (n : Int) := by omega
                  obtain ⟨b0, o0, ha, hc⟩ := HKS.out.row (by omega)
                  obtain ⟨e0, e1⟩ := hc k hlt
                  have hso := HKS.out.ok k hlt
                  obtain ⟨κ, hκ⟩ : ∃ κ, κ = K k := ⟨_, rfl⟩
                  rw [← hκ] at e0 e1 hso
                  have HK : Hid (κ = K k) := hκ
                  obtain ⟨ke, ks, lm⟩ := κ
                  simp only at e0 e1 hso
                  subst ha
                  clear hc hκ
                  cases ks with
                  | none =>
                    go_wp2
                    all_goals try (go_ret; exact ⟨bytesF, HB.out⟩)
                    go_round
                    case rel => exact ⟨k + 1, _, by omega, by go_num, rfl, fun j hj => by by_cases e : j = k; (subst e; rw [← HK.out]; exact fun h => absurd rfl h); exact HD.out j (by omega)⟩
                    case measure => simp [intOf]; omega
                  | some sd =>
                    obtain ⟨bs, os, rfl, hat, hok⟩ := hso sd rfl
                    obtain ⟨la1, ln1, lc1, la2, ln2, lc2, lT, lloc, la3, ln3, lc3, lbt⟩ := lm
                    have x0 := hat.c0
                    have x1 := hat.c1
                    have x2 := hat.c2
                    have x3 := hat.c3
                    simp only at x0 x1 x2 x3
                    have lm1 : ln1 ≤ 9223372036854775807 := hok.m1
                    have lm2 : ln2 ≤ 9223372036854775807 := hok.m2
                    have lm3 : ln3 ≤ 9223372036854775807 := hok.m3
                    have HOK : Hid (LimOK W ⟨la1, ln1, lc1, la2, ln2, lc2, lT, lloc, la3, ln3, lc3, lbt⟩) := hok
                    clear hat hok hso
                    go_wp2
                    all_goals try (go_ret; exact ⟨bytesF, HB.out⟩)
                    go_loop [11, 16] (fun z i => ∃ (k : Nat) (y : Int), k ≤ ln1 ∧ i = .int .i64 k ∧ z = .int .i64 y) (fun _ i => ln1 - (intOf i).toNat)
                    case atStart => exact ⟨0, _, Nat.zero_le _, rfl, rfl⟩
                    case round =>
                      obtain ⟨k16, y16, hk16, rfl, rfl⟩ := hrel
                      by_cases hlt16 : k16 < ln1
                      · as_aux_lemma =>
                        have g1 : (k16 : Int) < (ln1 : Int) := by omega
                        obtain ⟨b, off, ha, hc⟩ := HOK.out.r1 (by exact Nat.lt_of_le_of_lt (Nat.zero_le _) hlt16)
                        obtain ⟨st, hst⟩ := hc k16 hlt16
                        simp only at ha
                        subst ha
                        clear hc
                        go_wp2
                        all_goals try (go_ret; exact ⟨bytesF, HB.out⟩)
                        go_round
                        case rel => exact ⟨k16 + 1, _, by omega, by go_num, rfl⟩
                        case measure => simp [intOf]; omega
                      · as_aux_lemma =>
                        have g1 : ¬ (k16 : Int) < (ln1 : Int) := by omega
                        clear hlt16
                        go_wp2
                        all_goals try (go_ret; exact ⟨bytesF, HB.out⟩)
                        have HL2 : Hid (ln2 ≤ 1048576) := (by omega : ln2 ≤ 1048576)
                        go_loop [11, 17] (fun z i => ∃ (k : Nat) (y : Int), k ≤ ln2 ∧ i = .int .i64 k ∧ z = .int .i64 y) (fun _ i => ln2 - (intOf i).toNat)
                        case atStart => exact ⟨0, _, Nat.zero_le _, rfl, rfl⟩
                        case round =>
                          obtain ⟨k17, y17, hk17, rfl, rfl⟩ := hrel
                          by_cases hlt17 : k17 < ln2
                          · as_aux_lemma =>
                            have g1 : (k17 : Int) < (ln2 : Int) := by omega
                            obtain ⟨b, off, ha, hc⟩ := HOK.out.r2 (by exact Nat.lt_of_le_of_lt (Nat.zero_le _) hlt17)
                            obtain ⟨k0, k1⟩ := hc k17 hlt17
                            obtain ⟨s0, hs0⟩ : ∃ s, s = (lT k17).1 := ⟨_, rfl⟩
                            obtain ⟨s1, hs1⟩ : ∃ s, s = (lT k17).2 := ⟨_, rfl⟩
                            replace k0 : W.cell? ⟨b, off + k17 * 2, none⟩ = some (.string s0) := by rw [hs0]; exact k0
                            replace k1 : W.cell? ⟨b, off + k17 * 2 + 1, none⟩ = some (.string s1) := by rw [hs1]; exact k1
                            simp only at ha
                            subst ha
                            clear hc hs0 hs1
                            go_wp2
                            all_goals try (go_ret; exact ⟨bytesF, HB.out⟩)
                            go_round
                            case rel => exact ⟨k17 + 1, _, by omega, by go_num, rfl⟩
                            case measure => simp [intOf]; omega
                          · as_aux_lemma =>
                            have g1 : ¬ (k17 : Int) < (ln2 : Int) := by omega
                            clear hlt17
                            go_wp2
                            all_goals try (go_ret; exact ⟨bytesF, HB.out⟩)
                            go_loop [11, 18] (fun z i => ∃ (k : Nat) (y : Int), k ≤ ln3 ∧ i = .int .i64 k ∧ z = .int .i64 y) (fun _ i => ln3 - (intOf i).toNat)
                            case atStart => exact ⟨0, _, Nat.zero_le _, rfl, rfl⟩
                            case round =>
                              obtain ⟨k18, y18, hk18, rfl, rfl⟩ := hrel
                              by_cases hlt18 : k18 < ln3
                              · as_aux_lemma =>
                                have g1 : (k18 : Int) < (ln3 : Int) := by omega
                                obtain ⟨b, off, ha, hc⟩ := HOK.out.r3 (by exact Nat.lt_of_le_of_lt (Nat.zero_le _) hlt18)
                                obtain ⟨st, hst⟩ := hc k18 hlt18
                                simp only at ha
                                subst ha
                                clear hc
                                go_wp2
                                all_goals try (go_ret; exact ⟨bytesF, HB.out⟩)
                                go_round
                                case rel => exact ⟨k18 + 1, _, by omega, by go_num, rfl⟩
                                case measure => simp [intOf]; omega
                              · as_aux_lemma =>
                                have g1 : ¬ (k18 : Int) < (ln3 : Int) := by omega
                                clear hlt18
                                go_wp2
                                all_goals try (go_ret; exact ⟨bytesF, HB.out⟩)
                                go_round
                                case rel => exact ⟨k + 1, _, by omega, by go_num, rfl, fun j hj => by by_cases e : j = k; (subst e; rw [← HK.out]; exact fun _ => HL2.out); exact HD.out j (by omega)⟩
                                case measure => simp [intOf]; omega
                · as_aux_lemma =>
                  have hge : k = n := by omega
                  subst hge
                  have g1 : ¬ (k : Int) < (k : Int) := by omega
                  clear hlt hk
                  cases sc with
                  | none =>
                    go_wp2
                    all_goals try (go_ret; exact ⟨bytesF, HB.out⟩)
                    go_ret
                    exact ⟨bytesT ⟨HN2.out, HNN.out, HD.out, fun h => absurd rfl h⟩, HB.out⟩
                  | some sd =>
                    obtain ⟨bs, os, rfl, hat, hok⟩ := HSO.out sd rfl
                    obtain ⟨la1, ln1, lc1, la2, ln2, lc2, lT, lloc, la3, ln3, lc3, lbt⟩ := l
                    have x0 := hat.c0
                    have x1 := hat.c1
                    have x2 := hat.c2
                    have x3 := hat.c3
                    simp only at x0 x1 x2 x3
                    have lm1 : ln1 ≤ 9223372036854775807 := hok.m1
                    have lm2 : ln2 ≤ 9223372036854775807 := hok.m2
                    have lm3 : ln3 ≤ 9223372036854775807 := hok.m3
                    have HOK : Hid (LimOK W ⟨la1, ln1, lc1, la2, ln2, lc2, lT, lloc, la3, ln3, lc3, lbt⟩) := hok
                    clear hat hok
                    go_wp2
                    all_goals try (go_ret; exact ⟨bytesF, HB.out⟩)
                    go_loop [11, 19] (fun z i => ∃ (k : Nat) (y : Int), k ≤ ln1 ∧ i = .int .i64 k ∧ z = .int .i64 y) (fun _ i => ln1 - (intOf i).toNat)
                    case atStart => exact ⟨0, _, Nat.zero_le _, rfl, rfl⟩
                    case round =>
                      obtain ⟨k19, y19, hk19, rfl, rfl⟩ := hrel
                      by_cases hlt19 : k19 < ln1
                      · as_aux_lemma =>
                        have g1 : (k19 : Int) < (ln1 : Int) := by omega
                        obtain ⟨b, off, ha, hc⟩ := HOK.out.r1 (by exact Nat.lt_of_le_of_lt (Nat.zero_le _) hlt19)
                        obtain ⟨st, hst⟩ := hc k19 hlt19
                        simp only at ha
                        subst ha
                        clear hc
                        go_wp2
                        all_goals try (go_ret; exact ⟨bytesF, HB.out⟩)
                        go_round
                        case rel => exact ⟨k19 + 1, _, by omega, by go_num, rfl⟩
                        case measure => simp [intOf]; omega
                      · as_aux_lemma =>
                        have g1 : ¬ (k19 : Int) < (ln1 : Int) := by omega
                        clear hlt19
                        go_wp2
                        all_goals try (go_ret; exact ⟨bytesF, HB.out⟩)
                        have HL2 : Hid (ln2 ≤ 1048576) := (by omega : ln2 ≤ 1048576)
                        go_loop [11, 20] (fun z i => ∃ (k : Nat) (y : Int), k ≤ ln2 ∧ i = .int .i64 k ∧ z = .int .i64 y) (fun _ i => ln2 - (intOf i).toNat)
                        case atStart => exact ⟨0, _, Nat.zero_le _, rfl, rfl⟩
                        case round =>
                          obtain ⟨k20, y20, hk20, rfl, rfl⟩ := hrel
                          by_cases hlt20 : k20 < ln2
                          · as_aux_lemma =>
                            have g1 : (k20 : Int) < (ln2 : Int) := by omega
                            obtain ⟨b, off, ha, hc⟩ := HOK.out.r2 (by exact Nat.lt_of_le_of_lt (Nat.zero_le _) hlt20)
                            obtain ⟨k0, k1⟩ := hc k20 hlt20
                            obtain ⟨s0, hs0⟩ : ∃ s, s = (lT k20).1 := ⟨_, rfl⟩
                            obtain ⟨s1, hs1⟩ : ∃ s, s = (lT k20).2 := ⟨_, rfl⟩
                            replace k0 : W.cell? ⟨b, off + k20 * 2, none⟩ = some (.string s0) := by rw [hs0]; exact k0
                            replace k1 : W.cell? ⟨b, off + k20 * 2 + 1, none⟩ = some (.string s1) := by rw [hs1]; exact k1
                            simp only at ha
                            subst ha
                            clear hc hs0 hs1
                            go_wp2
                            all_goals try (go_ret; exact ⟨bytesF, HB.out⟩)
                            go_round
                            case rel => exact ⟨k20 + 1, _, by omega, by go_num, rfl⟩
                            case measure => simp [intOf]; omega
                          · as_aux_lemma =>
                            have g1 : ¬ (k20 : Int) < (ln2 : Int) := by omega
                            clear hlt20
                            go_wp2
                            all_goals try (go_ret; exact ⟨bytesF, HB.out⟩)
                            go_loop [11, 21] (fun z i => ∃ (k : Nat) (y : Int), k ≤ ln3 ∧ i = .int .i64 k ∧ z = .int .i64 y) (fun _ i => ln3 - (intOf i).toNat)
                            case atStart => exact ⟨0, _, Nat.zero_le _, rfl, rfl⟩
                            case round =>
                              obtain ⟨k21, y21, hk21, rfl, rfl⟩ := hrel
                              by_cases hlt21 : k21 < ln3
                              · as_aux_lemma =>
                                have g1 : (k21 : Int) < (ln3 : Int) := by omega
                                obtain ⟨b, off, ha, hc⟩ := HOK.out.r3 (by exact Nat.lt_of_le_of_lt (Nat.zero_le _) hlt21)
                                obtain ⟨st, hst⟩ := hc k21 hlt21
                                simp only at ha
                                subst ha
                                clear hc
                                go_wp2
                                all_goals try (go_ret; exact ⟨bytesF, HB.out⟩)
                                go_round
                                case rel => exact ⟨k21 + 1, _, by omega, by go_num, rfl⟩
                                case measure => simp [intOf]; omega
                              · as_aux_lemma =>
                                have g1 : ¬ (k21 : Int) < (ln3 : Int) := by omega
                                clear hlt21
                                go_wp2
                                all_goals try (go_ret; exact ⟨bytesF, HB.out⟩)
                                go_ret
                                exact ⟨bytesT ⟨HN2.out, HNN.out, HD.out, fun _ => HL2.out⟩, HB.out⟩
end Go.Proofs.Qxb6618931a
