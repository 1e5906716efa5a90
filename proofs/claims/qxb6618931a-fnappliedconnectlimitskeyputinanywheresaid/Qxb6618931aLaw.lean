/-
  THE WALK OF FnAppliedConnectLimitsKeyPutInAnywhere.
-/
import Derived.Test.Qxb6618931aFirst
import Derived.Test.Qxb6618931aSameR
import Derived.Test.Qxb6618931aBytes
namespace Go.Proofs.Qxb6618931a
open Go.RowKit
set_option linter.unusedVariables false

theorem info29 : (Try.prog.info? 29).map (fun i => (i.zero, i.size, i.bytes)) = some (some (.agg #[.string ByteArray.empty, .pointer none]), 2, 24) := by kernel_rfl
theorem make26 (n : Nat) (h : n ≤ 1048577) (w : World) : (Instr.makeSlice 26 (.int .i64 n) (.int .i64 n)).run Try.prog w = .ok (.slice (some ⟨w.heap.size, 0, none⟩) n n) (w.alloc (.cells (madeCells #[.string ByteArray.empty, .pointer none] (n * 2)) 29)) := by
  have hi := info29
  cases hx : Try.prog.info? 29 with
  | none => rw [hx] at hi; simp at hi
  | some i =>
    rw [hx] at hi
    simp at hi
    obtain ⟨h1, h2, h3⟩ := hi
    have r := run_makeSlice (P := Try.prog) w 26 29 i _ Try.underlying26 hx h1 .i64 .i64 n n (by omega) (Int.le_refl _) (by rw [h2]; simp; omega) (by rw [h3]; omega) (by omega)
    rw [h2] at r
    simpa [Value.cells] using r
theorem LimOK.tmpl {w : World} {l : Lim} (h : LimOK w l) : LimOK w l.tmpl := ⟨h.m1, h.m2, by simp [Lim.tmpl], h.r1, h.r2, fun h => absurd h (by simp [Lim.tmpl])⟩
theorem applied_ok {own l : Lim} {K : Nat → Key} {n : Nat} {s : ByteArray} {w : World} (h : Applied own K n s l) (ho : LimOK w own) (hk : ∀ i, i < n → ScopeOK w (K i).sc (K i).l) : LimOK w l := by
  rcases h with ⟨rfl, _⟩ | ⟨i, hi, hs, _, _, rfl⟩
  · exact ho
  · cases e : (K i).sc with
    | none => exact absurd e hs
    | some ad =>
      obtain ⟨_, _, _, _, h⟩ := hk i hi ad e
      exact h.tmpl

set_option maxRecDepth 100000 in
set_option maxHeartbeats 8000000 in
theorem law_any (issuer : ByteArray) (own : Lim) (a : Option Addr) (n c : Nat) (K : Nat → Key) (p : Int) (key : ByteArray) (sc : Option Addr) (l : Lim) (w : World) (hn : n ≤ 9223372036854775807) (ho : LimOK w own) (hk : KeysAt w a n K) (hs : ScopeOK w sc l) :
    Calls Try.prog 3 #[.string issuer, .agg #[.slice own.a1 own.n1 own.c1, .slice own.a2 own.n2 own.c2, .string own.loc, .slice own.a3 own.n3 own.c3, .bool own.bt], .slice a n c, .int .i64 p, .agg #[.string key, .pointer sc]] w fun e w' => e = .returned (.bool true) ∧ Below w.heap.size w w' := by
  obtain ⟨W, hW⟩ : ∃ W, W = (w.alloc (.cells #[.slice own.a1 own.n1 own.c1, .slice own.a2 own.n2 own.c2, .string own.loc, .slice own.a3 own.n3 own.c3, .bool own.bt] 25)).alloc (.cells #[.string key, .pointer sc] 29) := ⟨_, rfl⟩
  have hB : Below w.heap.size w W := by rw [hW]; exact ((Below.refl _ _).alloc (Nat.le_refl _) _).alloc (by simp) _
  have HB : Hid (Below w.heap.size w W) := hB
  have HO : Hid (LimOK W own) := ho.below hB
  have HKS : Hid (KeysAt W a n K) := hk.below hB
  have HSO : Hid (ScopeOK W sc l) := hs.below hB
  obtain ⟨B0, hB0⟩ : ∃ B0, B0 = w.heap.size := ⟨_, rfl⟩
  obtain ⟨B1, hB1⟩ : ∃ B1, B1 = w.heap.size + 1 := ⟨_, rfl⟩
  have hsz : W.heap.size = w.heap.size + 2 := by rw [hW]; simp
  have l0 : B0 < W.heap.size := by omega
  have l1 : B1 < W.heap.size := by omega
  have q0 : ∀ w', Below W.heap.size W w' → w'.cell? ⟨B0, 0, none⟩ = some (.slice own.a1 own.n1 own.c1) := fun w' h => (h.cell (p := ⟨B0, 0, none⟩) l0).trans (by rw [hW, hB0]; simp)
  have q1 : ∀ w', Below W.heap.size W w' → w'.cell? ⟨B0, 1, none⟩ = some (.slice own.a2 own.n2 own.c2) := fun w' h => (h.cell (p := ⟨B0, 1, none⟩) l0).trans (by rw [hW, hB0]; simp)
  have q2 : ∀ w', Below W.heap.size W w' → w'.cell? ⟨B0, 2, none⟩ = some (.string own.loc) := fun w' h => (h.cell (p := ⟨B0, 2, none⟩) l0).trans (by rw [hW, hB0]; simp)
  have q3 : ∀ w', Below W.heap.size W w' → w'.cell? ⟨B0, 3, none⟩ = some (.slice own.a3 own.n3 own.c3) := fun w' h => (h.cell (p := ⟨B0, 3, none⟩) l0).trans (by rw [hW, hB0]; simp)
  have q4 : ∀ w', Below W.heap.size W w' → w'.cell? ⟨B0, 4, none⟩ = some (.bool own.bt) := fun w' h => (h.cell (p := ⟨B0, 4, none⟩) l0).trans (by rw [hW, hB0]; simp)
  have r0 : ∀ w', Below W.heap.size W w' → w'.cell? ⟨B1, 0, none⟩ = some (.string key) := fun w' h => (h.cell (p := ⟨B1, 0, none⟩) l1).trans (by rw [hW, hB1]; simp)
  have r1 : ∀ w', Below W.heap.size W w' → w'.cell? ⟨B1, 1, none⟩ = some (.pointer sc) := fun w' h => (h.cell (p := ⟨B1, 1, none⟩) l1).trans (by rw [hW, hB1]; simp)
  have HW : Hid (W = (w.alloc (.cells #[.slice own.a1 own.n1 own.c1, .slice own.a2 own.n2 own.c2, .string own.loc, .slice own.a3 own.n3 own.c3, .bool own.bt] 25)).alloc (.cells #[.string key, .pointer sc] 29)) := hW
  clear hW ho hk hs hB hsz
  go_enter Try.func3, Try.ntmps3
  go_wp2_with fail
  rw [← HW.out, ← hB1, ← hB0]
  clear HW hB0 hB1
  refine (bytes_any issuer own a n c K p key sc l W hn HO.out HKS.out HSO.out).mono ?_
  rintro e w1 ⟨⟨bo, rfl, hbo⟩, hb1⟩
  have HBO : Hid (bo = true → BytesOK own l n K sc) := hbo
  clear hbo
  cases bo
  · go_wp2_with fail
    go_ret
    exact ⟨rfl, HB.out.trans (hb1.mono HB.out.size)⟩
  obtain ⟨hy1, hy2, hy3, hy4⟩ := HBO.out rfl
  have HY3 : Hid (∀ i, i < n → (K i).sc ≠ none → (K i).l.n2 ≤ 1048576) := hy3
  have HY4 : Hid (sc ≠ none → l.n2 ≤ 1048576) := hy4
  clear HBO hy3 hy4
  go_wp2_with fail
  · go_ret
    exact ⟨rfl, HB.out.trans (hb1.mono HB.out.size)⟩
  refine (addLimits_any _ own w1 (HO.out.below hb1)).mono ?_
  rintro e w2 ⟨⟨z2, rfl⟩, hb⟩
  have hb2 : Below W.heap.size W w2 := hb1.trans (hb.mono hb1.size)
  clear hb
  go_wp2_with fail
  · go_ret
    exact ⟨rfl, HB.out.trans (hb2.mono HB.out.size)⟩
  refine (addKeys_any _ a n c K w2 hn (HKS.out.below hb2)).mono ?_
  rintro e w3 ⟨⟨z3, rfl⟩, hb⟩
  have hb3 : Below W.heap.size W w3 := hb2.trans (hb.mono hb2.size)
  clear hb
  go_wp2_with fail
  · go_ret
    exact ⟨rfl, HB.out.trans (hb3.mono HB.out.size)⟩
  refine (addKey_any _ key sc l w3 (HSO.out.below hb3)).mono ?_
  rintro e w4 ⟨⟨z4, rfl⟩, hb⟩
  have hb4 : Below W.heap.size W w4 := hb3.trans (hb.mono hb3.size)
  clear hb hb1 hb2 hb3
  by_cases hz4 : 1048576 < z4
  · go_wp2_with fail
    go_ret
    exact ⟨rfl, HB.out.trans (hb4.mono HB.out.size)⟩
  have hmk : ∀ w : World, (Instr.makeSlice 26 (.int .i64 ((n : Int) + 1)) (.int .i64 ((n : Int) + 1))).run Try.prog w = .ok (.slice (some ⟨w.heap.size, 0, none⟩) (n + 1) (n + 1)) (w.alloc (.cells (madeCells #[.string ByteArray.empty, .pointer none] ((n + 1) * 2)) 29)) := fun w => by simpa using make26 (n + 1) (by omega) w
  by_cases hp : 0 ≤ p ∧ p ≤ n
  case neg =>
    have hp2 : p < 0 ∨ (0 ≤ p ∧ (n : Int) < p) := by omega
    rcases hp2 with hp2 | ⟨hp2, hp3⟩
    all_goals
      go_wp2_with fail
      go_ret
      exact ⟨rfl, HB.out.trans (hb4.mono HB.out.size)⟩
  obtain ⟨pn, rfl⟩ : ∃ pn : Nat, p = pn := Int.eq_ofNat_of_zero_le hp.1
  have hpn : pn ≤ n := by omega
  have hp1 : ¬ ((pn : Int) < 0) := by omega
  have hp2 : ¬ ((n : Int) < (pn : Int)) := by omega
  clear hp
  obtain ⟨M, hM⟩ : ∃ M, M = w4.heap.size := ⟨_, rfl⟩
  obtain ⟨V, hV⟩ : ∃ V, V = w4.alloc (.cells (madeCells #[.string ByteArray.empty, .pointer none] ((n + 1) * 2)) 29) := ⟨_, rfl⟩
  have HV1 : Hid (Below W.heap.size W V) := by rw [hV]; exact hb4.alloc hb4.size _
  have HV2 : Hid (Free V M ((n + 1) * 2)) := by rw [hV, hM]; exact free_alloc w4 _ 29 _ (size_madeCells _ _)
  have hlM : W.heap.size ≤ M := by rw [hM]; exact hb4.size
  have HV : Hid (V = w4.alloc (.cells (madeCells #[.string ByteArray.empty, .pointer none] ((n + 1) * 2)) 29)) := hV
  have HMM : Hid (M = w4.heap.size) := hM
  clear hV hM
  go_wp2_with fail
  rw [← HV.out, ← HMM.out]
  clear HV HMM hmk hb4
  obtain ⟨κ, hκ⟩ : ∃ κ : Key, κ = ⟨key, sc, l⟩ := ⟨_, rfl⟩
  have HKAP : Hid (κ = ⟨key, sc, l⟩) := hκ
  clear hκ
  go_loopw [13] (fun i wr => ∃ k : Nat, k ≤ pn ∧ i = .int .i64 k ∧ Free wr M ((n + 1) * 2) ∧ (∀ j, j < k → wr.cell? ⟨M, j * 2, none⟩ = some (.string (putIn K pn κ j).key) ∧ wr.cell? ⟨M, j * 2 + 1, none⟩ = some (.pointer (putIn K pn κ j).sc)) ∧ Below W.heap.size W wr) (fun i _ => pn - (intOf i).toNat)
  case atStart => exact ⟨0, Nat.zero_le _, rfl, HV2.out, fun j hj => absurd hj (by omega), HV1.out⟩
  case round =>
    clear HV1 HV2
    obtain ⟨k, hk, rfl, hf, hdone, hbw⟩ := hrel
    have HF : Hid (Free wr M ((n + 1) * 2)) := hf
    have HD : Hid (∀ j, j < k → wr.cell? ⟨M, j * 2, none⟩ = some (.string (putIn K pn κ j).key) ∧ wr.cell? ⟨M, j * 2 + 1, none⟩ = some (.pointer (putIn K pn κ j).sc)) := hdone
    clear hdone
    by_cases hlt : k < pn
    · have g1 : (k : Int) < (pn : Int) := by omega
      have g2 : (k : Int) < (n : Int) := by omega
      obtain ⟨b0, o0, ha, hc⟩ := (HKS.out.below hbw).row (by omega)
      obtain ⟨e0, e1⟩ := hc k (by omega)
      obtain ⟨ky, hky⟩ : ∃ ky, ky = (K k).key := ⟨_, rfl⟩
      obtain ⟨ks, hks⟩ : ∃ ks, ks = (K k).sc := ⟨_, rfl⟩
      rw [← hky] at e0
      rw [← hks] at e1
      obtain ⟨v0, hv0⟩ := hf.cell (k * 2) (by omega)
      obtain ⟨v1, hv1⟩ := hf.cell (k * 2 + 1) (by omega)
      have z0 : wr.frozen? ⟨M, k * 2, none⟩ = false := hf.free _
      have z1 : wr.frozen? ⟨M, k * 2 + 1, none⟩ = false := hf.free _
      have HKY : Hid (ky = (K k).key ∧ ks = (K k).sc) := ⟨hky, hks⟩
      subst ha
      clear hc hf hky hks
      go_wp2_with fail
      go_roundw
      case rel =>
        refine ⟨k + 1, by omega, by go_num, (HF.out.setCell _ _).setCell _ _, fun j hj => ?_, (hbw.setCell hlM _).setCell hlM _⟩
        by_cases e : j = k
        · subst e
          rw [putIn_lt hlt, ← HKY.out.1, ← HKY.out.2]
          exact ⟨cell_two_fst hv0 (by omega), cell_two_snd hv1 (by omega)⟩
        · obtain ⟨d0, d1⟩ := HD.out j (by omega)
          exact ⟨cell_two_at d0 (by omega) (by omega), cell_two_at d1 (by omega) (by omega)⟩
      case measure => simp [intOf]; omega
    · have hge : k = pn := by omega
      subst hge
      have g1 : ¬ (k : Int) < (k : Int) := by omega
      have g2 : (k : Int) < (n : Int) + 1 := by omega
      obtain ⟨v0, hv0⟩ := hf.cell (k * 2) (by omega)
      obtain ⟨v1, hv1⟩ := hf.cell (k * 2 + 1) (by omega)
      have z0 : wr.frozen? ⟨M, k * 2, none⟩ = false := hf.free _
      have z1 : wr.frozen? ⟨M, k * 2 + 1, none⟩ = false := hf.free _
      obtain ⟨V2, hV2⟩ : ∃ V2, V2 = (wr.setCell ⟨M, k * 2, none⟩ (.string key)).setCell ⟨M, k * 2 + 1, none⟩ (.pointer sc) := ⟨_, rfl⟩
      have HF2 : Hid (Free V2 M ((n + 1) * 2)) := by rw [hV2]; exact (hf.setCell _ _).setCell _ _
      have HB2 : Hid (Below W.heap.size W V2) := by rw [hV2]; exact (hbw.setCell hlM _).setCell hlM _
      have HD2 : Hid (∀ j, j < k + 1 → V2.cell? ⟨M, j * 2, none⟩ = some (.string (putIn K k κ j).key) ∧ V2.cell? ⟨M, j * 2 + 1, none⟩ = some (.pointer (putIn K k κ j).sc)) := fun j hj => by
        rw [hV2]
        by_cases e : j = k
        · subst e
          rw [putIn_eq, HKAP.out]
          exact ⟨cell_two_fst hv0 (by omega), cell_two_snd hv1 (by omega)⟩
        · obtain ⟨d0, d1⟩ := HD.out j (by omega)
          exact ⟨cell_two_at d0 (by omega) (by omega), cell_two_at d1 (by omega) (by omega)⟩
      have HV2 : Hid (V2 = (wr.setCell ⟨M, k * 2, none⟩ (.string key)).setCell ⟨M, k * 2 + 1, none⟩ (.pointer sc)) := hV2
      clear hV2 hf HF HD
      go_wp2_with fail
      rw [← HV2.out]
      obtain ⟨X1, hX1⟩ : ∃ X1, X1 = wr := ⟨_, rfl⟩
      clear hbw hv0 hv1 z0 z1 hk hlt HV2
      subst hX1
      go_loopw [14] (fun i wr => ∃ t : Nat, k ≤ t ∧ t ≤ n ∧ i = .int .i64 t ∧ Free wr M ((n + 1) * 2) ∧ (∀ j, j < t + 1 → wr.cell? ⟨M, j * 2, none⟩ = some (.string (putIn K k κ j).key) ∧ wr.cell? ⟨M, j * 2 + 1, none⟩ = some (.pointer (putIn K k κ j).sc)) ∧ Below W.heap.size W wr) (fun i _ => n - (intOf i).toNat)
      case atStart => exact ⟨k, Nat.le_refl _, hpn, rfl, HF2.out, HD2.out, HB2.out⟩
      case round =>
        clear HF2 HB2 HD2
        obtain ⟨t, hkt, htn, rfl, hf, hdone, hbw⟩ := hrel
        have HF : Hid (Free wr M ((n + 1) * 2)) := hf
        have HD : Hid (∀ j, j < t + 1 → wr.cell? ⟨M, j * 2, none⟩ = some (.string (putIn K k κ j).key) ∧ wr.cell? ⟨M, j * 2 + 1, none⟩ = some (.pointer (putIn K k κ j).sc)) := hdone
        clear hdone
        by_cases hlt : t < n
        · have g1 : (t : Int) < (n : Int) := by omega
          have g2 : (t : Int) + 1 < (n : Int) + 1 := by omega
          obtain ⟨b0, o0, ha, hc⟩ := (HKS.out.below hbw).row (by omega)
          obtain ⟨e0, e1⟩ := hc t hlt
          obtain ⟨ky, hky⟩ : ∃ ky, ky = (K t).key := ⟨_, rfl⟩
          obtain ⟨ks, hks⟩ : ∃ ks, ks = (K t).sc := ⟨_, rfl⟩
          rw [← hky] at e0
          rw [← hks] at e1
          obtain ⟨v0, hv0⟩ := hf.cell ((t + 1) * 2) (by omega)
          obtain ⟨v1, hv1⟩ := hf.cell ((t + 1) * 2 + 1) (by omega)
          have z0 : wr.frozen? ⟨M, (t + 1) * 2, none⟩ = false := hf.free _
          have z1 : wr.frozen? ⟨M, (t + 1) * 2 + 1, none⟩ = false := hf.free _
          have HKY : Hid (ky = (K t).key ∧ ks = (K t).sc) := ⟨hky, hks⟩
          subst ha
          clear hc hf hky hks
          go_wp2_with fail
          go_roundw
          case rel =>
            refine ⟨t + 1, by omega, by omega, by go_num, (HF.out.setCell _ _).setCell _ _, fun j hj => ?_, (hbw.setCell hlM _).setCell hlM _⟩
            by_cases e : j = t + 1
            · subst e
              rw [putIn_gt hkt, ← HKY.out.1, ← HKY.out.2]
              exact ⟨cell_two_fst hv0 (by omega), cell_two_snd hv1 (by omega)⟩
            · obtain ⟨d0, d1⟩ := HD.out j (by omega)
              exact ⟨cell_two_at d0 (by omega) (by omega), cell_two_at d1 (by omega) (by omega)⟩
          case measure => simp [intOf]; omega
        · have hge : t = n := by omega
          subst hge
          have g1 : ¬ (t : Int) < (t : Int) := by omega
          have HMO : Hid (KeysAt wr (some ⟨M, 0, none⟩) (t + 1) (putIn K k κ)) := by
            refine ⟨fun _ => ⟨M, 0, rfl, fun i hi => ?_⟩, fun i hi => ?_⟩
            · obtain ⟨d0, d1⟩ := HD.out i hi
              exact ⟨by simpa using d0, by simpa using d1⟩
            · rcases Nat.lt_trichotomy i k with h1 | h1 | h1
              · rw [putIn_lt h1]; exact (HKS.out.ok i (by omega)).below hbw
              · subst h1; rw [putIn_eq, HKAP.out]; exact HSO.out.below hbw
              · obtain ⟨q, rfl⟩ : ∃ q, i = q + 1 := ⟨i - 1, by omega⟩
                rw [putIn_gt (by omega)]; exact (HKS.out.ok q (by omega)).below hbw
          have HMN : Hid (∀ i, i < t + 1 → (putIn K k κ i).sc ≠ none → (putIn K k κ i).l.n2 ≤ 1048576) := fun i hi => by
            rcases Nat.lt_trichotomy i k with h1 | h1 | h1
            · rw [putIn_lt h1]; exact HY3.out i (by omega)
            · subst h1; rw [putIn_eq, HKAP.out]; exact HY4.out
            · obtain ⟨q, rfl⟩ : ∃ q, i = q + 1 := ⟨i - 1, by omega⟩
              rw [putIn_gt (by omega)]; exact HY3.out q (by omega)
          clear HF HD hf hlt htn
          go_wp2_with fail
          refine (user_any issuer own wr (HO.out.below hbw) hy1).mono ?_
          rintro e w6 ⟨⟨u, rfl, hu⟩, hb⟩
          have hb6 : Below W.heap.size W w6 := hbw.trans (hb.mono hbw.size)
          have HU6 : Hid (UserAt w6 u issuer own) := hu
          have HM6 : Hid (KeysAt w6 (some ⟨M, 0, none⟩) (t + 1) (putIn K k κ)) := HMO.out.below hb
          clear hb hu HMO
          go_wp2_with fail
          refine (account_any a t c K w6 (by omega) (HKS.out.below hb6) HY3.out).mono ?_
          rintro e w7 ⟨⟨p1, rfl, hacc⟩, hb⟩
          have hb7 : Below W.heap.size W w7 := hb6.trans (hb.mono hb6.size)
          have HU7 : Hid (UserAt w7 u issuer own) := HU6.out.below hb
          have HM7 : Hid (KeysAt w7 (some ⟨M, 0, none⟩) (t + 1) (putIn K k κ)) := HM6.out.below hb
          have HA7 : Hid (AccAt w7 p1 t K) := hacc
          clear hb hacc HU6 HM6 hb6
          go_wp2_with fail
          refine (zzApplied_any u p1 t K issuer own w7 hn HU7.out HA7.out).mono ?_
          rintro e w8 ⟨⟨v0, l0', rfl, hv0, hap0⟩, hb⟩
          have hb8 : Below W.heap.size W w8 := hb7.trans (hb.mono hb7.size)
          have HU8 : Hid (UserAt w8 u issuer own) := HU7.out.below hb
          have HM8 : Hid (KeysAt w8 (some ⟨M, 0, none⟩) (t + 1) (putIn K k κ)) := HM7.out.below hb
          have HV8 : Hid (ConnVal w8 v0 l0') := hv0.below hb
          have HP0 : Hid (Applied own K t issuer l0') := hap0
          clear hb hv0 hap0 HU7 HM7 HA7 hb7
          obtain ⟨a0, c0, hv0e, ha0, hr0⟩ := HV8.out
          subst hv0e
          obtain ⟨R0, hR0⟩ : ∃ R0, R0 = w8.heap.size := ⟨_, rfl⟩
          obtain ⟨w9, hw9⟩ : ∃ w9, w9 = w8.alloc (.cells #[.slice l0'.a1 l0'.n1 l0'.c1, .bool false, .slice a0 l0'.n2 c0, .string l0'.loc, .slice l0'.a3 l0'.n3 l0'.c3, .bool l0'.bt] 40) := ⟨_, rfl⟩
          have hb89 : Below w8.heap.size w8 w9 := by rw [hw9]; exact (Below.refl _ _).alloc (Nat.le_refl _) _
          have hs9 : w9.heap.size = w8.heap.size + 1 := by rw [hw9]; simp
          have HC9 : Hid (∀ j, w9.cell? ⟨R0, j, none⟩ = #[.slice l0'.a1 l0'.n1 l0'.c1, .bool false, .slice a0 l0'.n2 c0, .string l0'.loc, .slice l0'.a3 l0'.n3 l0'.c3, .bool l0'.bt][j]?) := fun j => by rw [hw9, hR0]; exact World.cell?_alloc_mark _ _ _ _ j
          have hlR0 : R0 < w9.heap.size := by omega
          have hb9 : Below W.heap.size W w9 := hb8.trans (hb89.mono hb8.size)
          have HU9 : Hid (UserAt w9 u issuer own) := HU8.out.below hb89
          have HM9 : Hid (KeysAt w9 (some ⟨M, 0, none⟩) (t + 1) (putIn K k κ)) := HM8.out.below hb89
          have HV9 : Hid (ConnVal w9 (.agg #[.slice l0'.a1 l0'.n1 l0'.c1, .bool false, .slice a0 l0'.n2 c0, .string l0'.loc, .slice l0'.a3 l0'.n3 l0'.c3, .bool l0'.bt]) l0') := HV8.out.below hb89
          have HW9 : Hid (w9 = w8.alloc (.cells #[.slice l0'.a1 l0'.n1 l0'.c1, .bool false, .slice a0 l0'.n2 c0, .string l0'.loc, .slice l0'.a3 l0'.n3 l0'.c3, .bool l0'.bt] 40)) := hw9
          have HRR : Hid (R0 = w8.heap.size) := hR0
          clear hw9 hR0 ha0 hr0 HU8 HM8 HV8 hb89 hs9
          go_wp2_with fail
          rw [← HW9.out, ← HRR.out]
          clear HW9 HRR hb8
          refine (account_any (some ⟨M, 0, none⟩) (t + 1) (t + 1) (putIn K k κ) w9 (by omega) HM9.out HMN.out).mono ?_
          rintro e w10 ⟨⟨p2, rfl, hacc⟩, hb⟩
          have hb10 : Below W.heap.size W w10 := hb9.trans (hb.mono hb9.size)
          have HE10 : Hid (Below w9.heap.size w9 w10) := hb
          have HU10 : Hid (UserAt w10 u issuer own) := HU9.out.below hb
          have HA10 : Hid (AccAt w10 p2 (t + 1) (putIn K k κ)) := hacc
          clear hb hacc HU9 HM9
          go_wp2_with fail
          refine (zzApplied_any u p2 (t + 1) (putIn K k κ) issuer own w10 (by omega) HU10.out HA10.out).mono ?_
          rintro e w11 ⟨⟨v1, l1', rfl, hv1, hap1⟩, hb⟩
          have hb11 : Below W.heap.size W w11 := hb10.trans (hb.mono hb10.size)
          have HE11 : Hid (Below w9.heap.size w9 w11) := HE10.out.trans (hb.mono HE10.out.size)
          have HV11 : Hid (ConnVal w11 v1 l1') := hv1.below hb
          have HP1 : Hid (Applied own (putIn K k κ) (t + 1) issuer l1') := hap1
          clear hb hv1 hap1 HU10 HA10 hb10 HE10
          obtain ⟨a1', c1', hv1e, ha1, hr1⟩ := HV11.out
          subst hv1e
          obtain ⟨R1, hR1⟩ : ∃ R1, R1 = w11.heap.size := ⟨_, rfl⟩
          obtain ⟨Z, hZ⟩ : ∃ Z, Z = w11.alloc (.cells #[.slice l1'.a1 l1'.n1 l1'.c1, .bool false, .slice a1' l1'.n2 c1', .string l1'.loc, .slice l1'.a3 l1'.n3 l1'.c3, .bool l1'.bt] 40) := ⟨_, rfl⟩
          have hbZ' : Below w11.heap.size w11 Z := by rw [hZ]; exact (Below.refl _ _).alloc (Nat.le_refl _) _
          have hsZ : Z.heap.size = w11.heap.size + 1 := by rw [hZ]; simp
          have HCZ : Hid (∀ j, Z.cell? ⟨R1, j, none⟩ = #[.slice l1'.a1 l1'.n1 l1'.c1, .bool false, .slice a1' l1'.n2 c1', .string l1'.loc, .slice l1'.a3 l1'.n3 l1'.c3, .bool l1'.bt][j]?) := fun j => by rw [hZ, hR1]; exact World.cell?_alloc_mark _ _ _ _ j
          have hlR1 : R1 < Z.heap.size := by omega
          have hbZ : Below W.heap.size W Z := hb11.trans (hbZ'.mono hb11.size)
          have HE : Hid (Below w9.heap.size w9 Z) := HE11.out.trans (hbZ'.mono HE11.out.size)
          have HVZ1 : Hid (ConnVal Z (.agg #[.slice l1'.a1 l1'.n1 l1'.c1, .bool false, .slice a1' l1'.n2 c1', .string l1'.loc, .slice l1'.a3 l1'.n3 l1'.c3, .bool l1'.bt]) l1') := HV11.out.below hbZ'
          have HVZ0 : Hid (ConnVal Z (.agg #[.slice l0'.a1 l0'.n1 l0'.c1, .bool false, .slice a0 l0'.n2 c0, .string l0'.loc, .slice l0'.a3 l0'.n3 l0'.c3, .bool l0'.bt]) l0') := HV9.out.below HE.out
          have HWZ : Hid (Z = w11.alloc (.cells #[.slice l1'.a1 l1'.n1 l1'.c1, .bool false, .slice a1' l1'.n2 c1', .string l1'.loc, .slice l1'.a3 l1'.n3 l1'.c3, .bool l1'.bt] 40)) := hZ
          have HRZ : Hid (R1 = w11.heap.size) := hR1
          clear hZ hR1 ha1 hr1 HV11 HV9 hbZ' hsZ hb9
          go_wp2_with fail
          rw [← HWZ.out, ← HRZ.out]
          clear HWZ HRZ hb11 HE11
          refine (first_any a t c K issuer Z hn (HKS.out.below hbZ)).mono ?_
          rintro e w12 ⟨⟨r, rfl, hf⟩, hw12⟩
          subst w12
          have s0 : ∀ w', Below Z.heap.size Z w' → w'.cell? ⟨R1, 0, none⟩ = some (Value.slice l1'.a1 l1'.n1 l1'.c1) := fun w' h => (h.cell (p := ⟨R1, 0, none⟩) hlR1).trans (HCZ.out 0)
          have s1 : ∀ w', Below Z.heap.size Z w' → w'.cell? ⟨R1, 1, none⟩ = some (Value.bool false) := fun w' h => (h.cell (p := ⟨R1, 1, none⟩) hlR1).trans (HCZ.out 1)
          have s2 : ∀ w', Below Z.heap.size Z w' → w'.cell? ⟨R1, 2, none⟩ = some (Value.slice a1' l1'.n2 c1') := fun w' h => (h.cell (p := ⟨R1, 2, none⟩) hlR1).trans (HCZ.out 2)
          have s3 : ∀ w', Below Z.heap.size Z w' → w'.cell? ⟨R1, 3, none⟩ = some (Value.string l1'.loc) := fun w' h => (h.cell (p := ⟨R1, 3, none⟩) hlR1).trans (HCZ.out 3)
          have s4 : ∀ w', Below Z.heap.size Z w' → w'.cell? ⟨R1, 4, none⟩ = some (Value.slice l1'.a3 l1'.n3 l1'.c3) := fun w' h => (h.cell (p := ⟨R1, 4, none⟩) hlR1).trans (HCZ.out 4)
          have s5 : ∀ w', Below Z.heap.size Z w' → w'.cell? ⟨R1, 5, none⟩ = some (Value.bool l1'.bt) := fun w' h => (h.cell (p := ⟨R1, 5, none⟩) hlR1).trans (HCZ.out 5)
          have t0 : ∀ w', Below Z.heap.size Z w' → w'.cell? ⟨R0, 0, none⟩ = some (Value.slice l0'.a1 l0'.n1 l0'.c1) := fun w' h => (h.cell (p := ⟨R0, 0, none⟩) (Nat.lt_of_lt_of_le hlR0 HE.out.size)).trans ((HE.out.cell (p := ⟨R0, 0, none⟩) hlR0).trans (HC9.out 0))
          have t1 : ∀ w', Below Z.heap.size Z w' → w'.cell? ⟨R0, 1, none⟩ = some (Value.bool false) := fun w' h => (h.cell (p := ⟨R0, 1, none⟩) (Nat.lt_of_lt_of_le hlR0 HE.out.size)).trans ((HE.out.cell (p := ⟨R0, 1, none⟩) hlR0).trans (HC9.out 1))
          have t2 : ∀ w', Below Z.heap.size Z w' → w'.cell? ⟨R0, 2, none⟩ = some (Value.slice a0 l0'.n2 c0) := fun w' h => (h.cell (p := ⟨R0, 2, none⟩) (Nat.lt_of_lt_of_le hlR0 HE.out.size)).trans ((HE.out.cell (p := ⟨R0, 2, none⟩) hlR0).trans (HC9.out 2))
          have t3 : ∀ w', Below Z.heap.size Z w' → w'.cell? ⟨R0, 3, none⟩ = some (Value.string l0'.loc) := fun w' h => (h.cell (p := ⟨R0, 3, none⟩) (Nat.lt_of_lt_of_le hlR0 HE.out.size)).trans ((HE.out.cell (p := ⟨R0, 3, none⟩) hlR0).trans (HC9.out 3))
          have t4 : ∀ w', Below Z.heap.size Z w' → w'.cell? ⟨R0, 4, none⟩ = some (Value.slice l0'.a3 l0'.n3 l0'.c3) := fun w' h => (h.cell (p := ⟨R0, 4, none⟩) (Nat.lt_of_lt_of_le hlR0 HE.out.size)).trans ((HE.out.cell (p := ⟨R0, 4, none⟩) hlR0).trans (HC9.out 4))
          have t5 : ∀ w', Below Z.heap.size Z w' → w'.cell? ⟨R0, 5, none⟩ = some (Value.bool l0'.bt) := fun w' h => (h.cell (p := ⟨R0, 5, none⟩) (Nat.lt_of_lt_of_le hlR0 HE.out.size)).trans ((HE.out.cell (p := ⟨R0, 5, none⟩) hlR0).trans (HC9.out 5))
          have o0 : ∀ w', Below Z.heap.size Z w' → w'.cell? ⟨B0, 0, none⟩ = some (Value.slice own.a1 own.n1 own.c1) := fun w' h => q0 w' (hbZ.trans (h.mono hbZ.size))
          have o1 : ∀ w', Below Z.heap.size Z w' → w'.cell? ⟨B0, 1, none⟩ = some (Value.slice own.a2 own.n2 own.c2) := fun w' h => q1 w' (hbZ.trans (h.mono hbZ.size))
          have o2 : ∀ w', Below Z.heap.size Z w' → w'.cell? ⟨B0, 2, none⟩ = some (Value.string own.loc) := fun w' h => q2 w' (hbZ.trans (h.mono hbZ.size))
          have o3 : ∀ w', Below Z.heap.size Z w' → w'.cell? ⟨B0, 3, none⟩ = some (Value.slice own.a3 own.n3 own.c3) := fun w' h => q3 w' (hbZ.trans (h.mono hbZ.size))
          have o4 : ∀ w', Below Z.heap.size Z w' → w'.cell? ⟨B0, 4, none⟩ = some (Value.bool own.bt) := fun w' h => q4 w' (hbZ.trans (h.mono hbZ.size))
          have k0 : ∀ w', Below Z.heap.size Z w' → w'.cell? ⟨B1, 0, none⟩ = some (.string key) := fun w' h => r0 w' (hbZ.trans (h.mono hbZ.size))
          have k1 : ∀ w', Below Z.heap.size Z w' → w'.cell? ⟨B1, 1, none⟩ = some (.pointer sc) := fun w' h => r1 w' (hbZ.trans (h.mono hbZ.size))
          have hZZ : Below Z.heap.size Z Z := Below.refl _ _
          have HFZ : Hid (Below w.heap.size w Z) := HB.out.trans (hbZ.mono HB.out.size)
          have HOZ : Hid (LimOK Z own) := HO.out.below hbZ
          have HSZ : Hid (ScopeOK Z sc l) := HSO.out.below hbZ
          have HL0 : Hid (LimOK Z l0') := applied_ok HP0.out HOZ.out (fun i hi => (HKS.out.ok i hi).below hbZ)
          clear q0 q1 q2 q3 q4 r0 r1 hbZ HKS HSO HO HC9 HCZ HE HMN HY3 HY4
          rcases hf with ⟨rfl, hno⟩ | ⟨i, hi, rfl, hyes, hno⟩
          · have HNO : Hid (∀ j, j < t → ((K j).key.toList == issuer.toList) = false) := hno
            have e0 : l0' = own := applied_none HP0.out hno
            have HQ0 : Hid (ConnVal Z (.agg #[.slice l0'.a1 l0'.n1 l0'.c1, .bool false, .slice a0 l0'.n2 c0, .string l0'.loc, .slice l0'.a3 l0'.n3 l0'.c3, .bool l0'.bt]) own) := by
              have h := HVZ0.out
              rw [← e0]
              exact h
            clear e0 hno
            go_wp2_with fail
            refine (isOwn_true _ own Z HOZ.out HQ0.out).mono ?_
            rintro e w13 ⟨rfl, hb13⟩
            cases hbo : (key.toList == issuer.toList) with
            | true =>
              cases sc with
              | none =>
                have e1 : l1' = own := (applied_at (i := k) HP1.out (by omega) (by rw [putIn_eq, HKAP.out]; exact hbo) (fun j hj => by rw [putIn_lt hj]; exact HNO.out j (by omega))).1 (by rw [putIn_eq, HKAP.out])
                have HQ : Hid (ConnVal w13 (.agg #[.slice l1'.a1 l1'.n1 l1'.c1, .bool false, .slice a1' l1'.n2 c1', .string l1'.loc, .slice l1'.a3 l1'.n3 l1'.c3, .bool l1'.bt]) own) := by
                  have h := HVZ1.out.below hb13
                  rw [← e1]
                  exact h
                clear e1
                go_wp2_with fail
                refine (isOwn_true _ own w13 (HOZ.out.below hb13) HQ.out).mono ?_
                rintro e wz ⟨rfl, hb⟩
                go_wp2_with fail
                go_ret
                exact ⟨rfl, HFZ.out.trans ((hb13.trans (hb.mono hb13.size)).mono HFZ.out.size)⟩
              | some sd =>
                obtain ⟨bs, os, rfl, hat, hok⟩ := HSZ.out sd rfl
                have e1 : l1' = l.tmpl := (applied_at (i := k) HP1.out (by omega) (by rw [putIn_eq, HKAP.out]; exact hbo) (fun j hj => by rw [putIn_lt hj]; exact HNO.out j (by omega))).2 (by rw [putIn_eq, HKAP.out]; simp) |>.trans (by rw [putIn_eq, HKAP.out])
                have hbs : bs < Z.heap.size := World.block_lt_of_cell? _ _ hat.c0
                have y0 : ∀ w', Below Z.heap.size Z w' → w'.cell? ⟨bs, os, none⟩ = some (.slice l.a1 l.n1 l.c1) := fun w' h => (h.cell (p := ⟨bs, os, none⟩) hbs).trans hat.c0
                have y1 : ∀ w', Below Z.heap.size Z w' → w'.cell? ⟨bs, os + 1, none⟩ = some (.slice l.a2 l.n2 l.c2) := fun w' h => (h.cell (p := ⟨bs, os + 1, none⟩) hbs).trans hat.c1
                have y2 : ∀ w', Below Z.heap.size Z w' → w'.cell? ⟨bs, os + 2, none⟩ = some (.string l.loc) := fun w' h => (h.cell (p := ⟨bs, os + 2, none⟩) hbs).trans hat.c2
                have y3 : ∀ w', Below Z.heap.size Z w' → w'.cell? ⟨bs, os + 3, none⟩ = some (.slice l.a3 l.n3 l.c3) := fun w' h => (h.cell (p := ⟨bs, os + 3, none⟩) hbs).trans hat.c3
                have y4 : ∀ w', Below Z.heap.size Z w' → w'.cell? ⟨bs, os + 4, none⟩ = some (.bool l.bt) := fun w' h => (h.cell (p := ⟨bs, os + 4, none⟩) hbs).trans hat.c4
                have HT : Hid (∀ w', Below Z.heap.size Z w' → Calls Try.prog 13 #[.agg #[.slice l1'.a1 l1'.n1 l1'.c1, .bool false, .slice a1' l1'.n2 c1', .string l1'.loc, .slice l1'.a3 l1'.n3 l1'.c3, .bool l1'.bt], .agg #[.slice l.a1 l.n1 l.c1, .slice l.a2 l.n2 l.c2, .string l.loc, .slice l.a3 l.n3 l.c3, .bool l.bt]] w' fun e w'' => e = .returned (.bool true) ∧ Below Z.heap.size Z w'') := fun w' h =>
                  (isTemplate_true _ l w' (hok.below h) (by rw [← e1]; exact HVZ1.out.below h)).mono fun e w'' ⟨he, hb⟩ => ⟨he, h.trans (hb.mono h.size)⟩
                have hS0 : Below Z.heap.size Z w13.drew := hb13.drew
                clear e1 hat hok
                go_wp2_with fail
                go_region_held3 (fun w' => Below Z.heap.size Z w') (first | assumption | go_keep) ((go_at_call 13; refine (HT.out _ (by assumption)).mono ?_; rintro e w5 ⟨rfl, hS5⟩))
                go_wp2_with fail
                go_ret
                refine ⟨rfl, HFZ.out.trans (Below.mono (B := Z.heap.size) ?_ HFZ.out.size)⟩
                assumption
            | false =>
              have e1 : l1' = l0' := applied_put_same hpn HP0.out HP1.out (.inl (by rw [HKAP.out]; exact hbo))
              have HQ : Hid (ConnVal w13 (.agg #[.slice l1'.a1 l1'.n1 l1'.c1, .bool false, .slice a1' l1'.n2 c1', .string l1'.loc, .slice l1'.a3 l1'.n3 l1'.c3, .bool l1'.bt]) l0') := by
                have h := HVZ1.out.below hb13
                rw [← e1]
                exact h
              clear e1
              go_wp2_with fail
              refine (sameResult_true _ _ l0' w13 (HL0.out.below hb13) HQ.out (HVZ0.out.below hb13)).mono ?_
              rintro e wz ⟨rfl, hb⟩
              go_wp2_with fail
              go_ret
              exact ⟨rfl, HFZ.out.trans ((hb13.trans (hb.mono hb13.size)).mono HFZ.out.size)⟩
          · have HNO : Hid (∀ j, j < i → ((K j).key.toList == issuer.toList) = false) := hno
            have HYS : Hid (((K i).key.toList == issuer.toList) = true) := hyes
            have g3 : ¬ ((i : Int) < 0) := by omega
            clear hno hyes
            cases hbo : (key.toList == issuer.toList) with
            | true =>
              by_cases hki : k ≤ i
              · have g4 : (k : Int) ≤ (i : Int) := by omega
                cases sc with
                | none =>
                  have e1 : l1' = own := (applied_at (i := k) HP1.out (by omega) (by rw [putIn_eq, HKAP.out]; exact hbo) (fun j hj => by rw [putIn_lt hj]; exact HNO.out j (by omega))).1 (by rw [putIn_eq, HKAP.out])
                  have HQ : Hid (ConnVal Z (.agg #[.slice l1'.a1 l1'.n1 l1'.c1, .bool false, .slice a1' l1'.n2 c1', .string l1'.loc, .slice l1'.a3 l1'.n3 l1'.c3, .bool l1'.bt]) own) := by
                    have h := HVZ1.out.below hZZ
                    rw [← e1]
                    exact h
                  clear e1
                  go_wp2_with fail
                  refine (isOwn_true _ own Z (HOZ.out.below hZZ) HQ.out).mono ?_
                  rintro e wz ⟨rfl, hb⟩
                  go_wp2_with fail
                  go_ret
                  exact ⟨rfl, HFZ.out.trans ((hZZ.trans (hb.mono hZZ.size)).mono HFZ.out.size)⟩
                | some sd =>
                  obtain ⟨bs, os, rfl, hat, hok⟩ := HSZ.out sd rfl
                  have e1 : l1' = l.tmpl := (applied_at (i := k) HP1.out (by omega) (by rw [putIn_eq, HKAP.out]; exact hbo) (fun j hj => by rw [putIn_lt hj]; exact HNO.out j (by omega))).2 (by rw [putIn_eq, HKAP.out]; simp) |>.trans (by rw [putIn_eq, HKAP.out])
                  have hbs : bs < Z.heap.size := World.block_lt_of_cell? _ _ hat.c0
                  have y0 : ∀ w', Below Z.heap.size Z w' → w'.cell? ⟨bs, os, none⟩ = some (.slice l.a1 l.n1 l.c1) := fun w' h => (h.cell (p := ⟨bs, os, none⟩) hbs).trans hat.c0
                  have y1 : ∀ w', Below Z.heap.size Z w' → w'.cell? ⟨bs, os + 1, none⟩ = some (.slice l.a2 l.n2 l.c2) := fun w' h => (h.cell (p := ⟨bs, os + 1, none⟩) hbs).trans hat.c1
                  have y2 : ∀ w', Below Z.heap.size Z w' → w'.cell? ⟨bs, os + 2, none⟩ = some (.string l.loc) := fun w' h => (h.cell (p := ⟨bs, os + 2, none⟩) hbs).trans hat.c2
                  have y3 : ∀ w', Below Z.heap.size Z w' → w'.cell? ⟨bs, os + 3, none⟩ = some (.slice l.a3 l.n3 l.c3) := fun w' h => (h.cell (p := ⟨bs, os + 3, none⟩) hbs).trans hat.c3
                  have y4 : ∀ w', Below Z.heap.size Z w' → w'.cell? ⟨bs, os + 4, none⟩ = some (.bool l.bt) := fun w' h => (h.cell (p := ⟨bs, os + 4, none⟩) hbs).trans hat.c4
                  have HT : Hid (∀ w', Below Z.heap.size Z w' → Calls Try.prog 13 #[.agg #[.slice l1'.a1 l1'.n1 l1'.c1, .bool false, .slice a1' l1'.n2 c1', .string l1'.loc, .slice l1'.a3 l1'.n3 l1'.c3, .bool l1'.bt], .agg #[.slice l.a1 l.n1 l.c1, .slice l.a2 l.n2 l.c2, .string l.loc, .slice l.a3 l.n3 l.c3, .bool l.bt]] w' fun e w'' => e = .returned (.bool true) ∧ Below Z.heap.size Z w'') := fun w' h =>
                    (isTemplate_true _ l w' (hok.below h) (by rw [← e1]; exact HVZ1.out.below h)).mono fun e w'' ⟨he, hb⟩ => ⟨he, h.trans (hb.mono h.size)⟩
                  have hS0 : Below Z.heap.size Z Z.drew := hZZ.drew
                  clear e1 hat hok
                  go_wp2_with fail
                  go_region_held3 (fun w' => Below Z.heap.size Z w') (first | assumption | go_keep) ((go_at_call 13; refine (HT.out _ (by assumption)).mono ?_; rintro e w5 ⟨rfl, hS5⟩))
                  go_wp2_with fail
                  go_ret
                  refine ⟨rfl, HFZ.out.trans (Below.mono (B := Z.heap.size) ?_ HFZ.out.size)⟩
                  assumption
              · have g4 : ¬ (k : Int) ≤ (i : Int) := by omega
                have e1 : l1' = l0' := applied_put_same hpn HP0.out HP1.out (.inr ⟨i, by omega, hi, HYS.out, HNO.out⟩)
                have HQ : Hid (ConnVal Z (.agg #[.slice l1'.a1 l1'.n1 l1'.c1, .bool false, .slice a1' l1'.n2 c1', .string l1'.loc, .slice l1'.a3 l1'.n3 l1'.c3, .bool l1'.bt]) l0') := by
                  have h := HVZ1.out.below hZZ
                  rw [← e1]
                  exact h
                clear e1
                go_wp2_with fail
                refine (sameResult_true _ _ l0' Z (HL0.out.below hZZ) HQ.out (HVZ0.out.below hZZ)).mono ?_
                rintro e wz ⟨rfl, hb⟩
                go_wp2_with fail
                go_ret
                exact ⟨rfl, HFZ.out.trans ((hZZ.trans (hb.mono hZZ.size)).mono HFZ.out.size)⟩
            | false =>
              have e1 : l1' = l0' := applied_put_same hpn HP0.out HP1.out (.inl (by rw [HKAP.out]; exact hbo))
              have HQ : Hid (ConnVal Z (.agg #[.slice l1'.a1 l1'.n1 l1'.c1, .bool false, .slice a1' l1'.n2 c1', .string l1'.loc, .slice l1'.a3 l1'.n3 l1'.c3, .bool l1'.bt]) l0') := by
                have h := HVZ1.out.below hZZ
                rw [← e1]
                exact h
              clear e1
              go_wp2_with fail
              refine (sameResult_true _ _ l0' Z (HL0.out.below hZZ) HQ.out (HVZ0.out.below hZZ)).mono ?_
              rintro e wz ⟨rfl, hb⟩
              go_wp2_with fail
              go_ret
              exact ⟨rfl, HFZ.out.trans ((hZZ.trans (hb.mono hZZ.size)).mono HFZ.out.size)⟩
end Go.Proofs.Qxb6618931a
