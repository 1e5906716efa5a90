/-
  THE WALK OF FnFilledForgetsEveryPartsWrittenKeys.
-/
import Derived.Test.Qxb6616935aBytes2
import Derived.Deep.QuietTactic
import Derived.BigQuiet
import Derived.Deep.RegionHeld3
import Derived.Deep.DrawnRows
import Derived.Deep.DeepCutAuto
import Derived.WalkSmall
import Derived.Outline
namespace Go.Proofs.Qxb6616935a
open Go.RowKit
set_option linter.unusedVariables false

/-- The law's arguments, as the walk takes them. -/
structure In2 (w : World) (a0 : Option Addr) (n0 : Nat) (B : List Int) (a1 : Option Addr) (n1 : Nat) (S : List (List ByteArray)) (a2 : Option Addr) (n2 : Nat) (xs : List Int) (a3 : Option Addr) (n3 : Nat) (L : List (List Int)) : Prop where
  l0 : B.length = n0
  l1 : S.length = n1
  l2 : xs.length = n2
  l3 : L.length = n3
  r0 : RowB w a0 B
  r1 : Rows2S w a1 S
  r2 : RowAt w a2 xs
  r3 : Rows2 w a3 L
  w0 : ∀ i, i < n0 → 0 ≤ B.getD i 0 ∧ B.getD i 0 ≤ 255
  w1 : ∀ i, i < n1 → (S.getD i []).length ≤ maxLen
  w2 : ∀ i, i < n2 → (Lit.int .u64 (xs.getD i 0)).wf = true

theorem lawS : Maps.Keyed Try.prog 9 := Maps.string_keyed Try.underlying9

/-- A look-up whose outcome is known. -/
theorem wpList_lookup_at {w : World} {ops : Array Oper} {rest : List Oper} {o : Oper} {a : Act} {Q : Exit → Act → World → Prop} (hg : o.guard = none) (m x : Operand) (hop : o.op = Op.lookup 39 m x true) (b n : Nat) (D : DataW Unit) (X c : Int) (bo : Bool)
    (hm : a.eval m = .map (some b)) (hx : a.eval x = .int .u64 X) (hown : w.ownsMap Try.prog 22 (plainElem Try.prog 22) b n D) (hw : (Lit.int .u64 X).wf = true) (hat : D.atKey (.int .u64 X) (.lit (.int .u64 0)) = .lit (.int .u64 c)) (hbo : Maps.has D (.int .u64 X) = bo)
    (hK : wpList Try.prog ops Q rest (a.put o.dst (.tuple #[.int .u64 c, .bool bo])) w) : wpList Try.prog ops Q (o :: rest) a w := by
  refine wpList_lookup_own_ok_int w hg m x 39 hop 22 22 .u64 law22 Try.underlying39 Try.underlying22 (zero22 _) b n D hm hown _ _ hx (Maps.keyOf_int_mk Try.underlying22 hw) ?_
  intro c' hat' _
  rw [hat] at hat'
  simp at hat'
  rw [hbo, ← hat']
  exact hK

set_option maxRecDepth 100000 in
set_option maxHeartbeats 8000000 in
theorem forgets_any (a0 : Option Addr) (n0 c0 : Nat) (B : List Int) (a1 : Option Addr) (n1 c1 : Nat) (S : List (List ByteArray)) (a2 : Option Addr) (n2 c2 : Nat) (xs : List Int) (a3 : Option Addr) (n3 c3 : Nat) (L : List (List Int)) (w : World)
    (hin : In2 w a0 n0 B a1 n1 S a2 n2 xs a3 n3 L) (m0 : n0 ≤ 1048576) (m1 : n1 ≤ 131072) (m2 : n2 ≤ 131072) (m3 : n3 ≤ 131072) :
    Calls Try.prog 5 #[.slice a0 n0 c0, .slice a1 n1 c1, .slice a2 n2 c2, .slice a3 n3 c3] w fun e w' => e = .returned (.bool true) ∧ Below w.heap.size w w' := by
  have HIN : Hid (In2 w a0 n0 B a1 n1 S a2 n2 xs a3 n3 L) := hin
  clear hin
  go_enter Try.func5, Try.ntmps5
  go_wp2_with fail
  refine (bytes2_any _ _ _ _ _ _ _ _ _ _ _ _ S L _ (by unfold maxLen; omega) (by unfold maxLen; omega) HIN.out.l1 HIN.out.l3 HIN.out.r1 HIN.out.r3 HIN.out.w1).mono ?_
  rintro e w' ⟨⟨bo, rfl⟩, hw⟩
  subst w'
  cases bo
  · go_wp2_with fail
    go_ret
    exact ⟨rfl, Below.refl _ _⟩
  go_wp2_with fail
  · go_ret
    exact ⟨rfl, Below.refl _ _⟩
  go_loop [9, 10, 11] (fun z i _ => ∃ (k : Nat) (y : Int), k ≤ n1 ∧ i = .int .i64 k ∧ z = .int .i64 y ∧ ∀ j, j < k → (S.getD j []).length ≤ 131072) (fun _ i _ => n1 - (intOf i).toNat)
  case atStart => exact ⟨0, _, Nat.zero_le _, rfl, rfl, fun j hj => absurd hj (by omega)⟩
  case round =>
    obtain ⟨k, y, hk, rfl, rfl, hall⟩ := hrel
    have HALS : Hid (∀ j, j < k → (S.getD j []).length ≤ 131072) := hall
    clear hall
    by_cases hlt : k < n1
    · obtain ⟨b, off, ha, hc⟩ := HIN.out.r1 (by rw [HIN.out.l1]; omega)
      obtain ⟨ai, ci, hcell, hrow⟩ := hc k (by rw [HIN.out.l1]; exact hlt)
      obtain ⟨l, hl⟩ : ∃ l, l = S.getD k [] := ⟨_, rfl⟩
      rw [← hl] at hcell hrow
      obtain ⟨m, hm'⟩ : ∃ m, m = l.length := ⟨_, rfl⟩
      rw [← hm'] at hcell
      have HM : Hid (m = l.length) := hm'
      have HLl : Hid (l = S.getD k []) := hl
      have HROW : Hid (RowS w ai l) := hrow
      subst ha
      clear hm' hc hl hrow
      by_cases hmb : m ≤ 131072
      · go_wp2
        · go_ret
          exact ⟨rfl, Below.refl _ _⟩
        go_loop [9, 11] (fun z i => ∃ (q : Nat) (y : Int), q ≤ m ∧ i = .int .i64 q ∧ z = .int .i64 y) (fun _ i => m - (intOf i).toNat)
        case atStart => exact ⟨0, _, Nat.zero_le _, rfl, rfl⟩
        case round =>
          obtain ⟨q, y2, hq, rfl, rfl⟩ := hrel
          by_cases hlt2 : q < m
          · obtain ⟨b2, o2, hai, hc2⟩ := HROW.out (by rw [← HM.out]; omega)
            obtain ⟨hs, _⟩ := hc2 q (by rw [← HM.out]; exact hlt2)
            obtain ⟨st, hst⟩ : ∃ st, st = l.getD q ByteArray.empty := ⟨_, rfl⟩
            rw [← hst] at hs
            subst hai
            clear hc2 hst
            go_wp2
            all_goals try (go_ret; exact ⟨rfl, Below.refl _ _⟩)
            go_round
            case rel => exact ⟨q + 1, _, by omega, by go_num, rfl⟩
            case measure => simp [intOf]; omega
          · have hge2 : ¬ ((q : Int) < (m : Int)) := by omega
            go_wp2
            go_round
            case rel => exact ⟨k + 1, _, by omega, by go_num, rfl, fun j hj => by by_cases e : j = k; (subst e; rw [← HLl.out, ← HM.out]; exact hmb); exact HALS.out j (by omega)⟩
            case measure => simp [intOf]; omega
      · go_wp2
        go_ret
        exact ⟨rfl, Below.refl _ _⟩
    · have hge : k = n1 := by omega
      subst hge
      clear hlt hk
      go_wp2_with fail
      go_loop [9, 12] (fun z i => ∃ (k : Nat) (y : Int), k ≤ n3 ∧ i = .int .i64 k ∧ z = .int .i64 y ∧ ∀ j, j < k → (L.getD j []).length ≤ 131072) (fun _ i => n3 - (intOf i).toNat)
      case atStart => exact ⟨0, _, Nat.zero_le _, rfl, rfl, fun j hj => absurd hj (by omega)⟩
      case round =>
        obtain ⟨t, y2, ht, rfl, rfl, hall⟩ := hrel
        have HALL : Hid (∀ j, j < t → (L.getD j []).length ≤ 131072) := hall
        clear hall
        by_cases hlt : t < n3
        · obtain ⟨b, off, ha, hc⟩ := HIN.out.r3 (by rw [HIN.out.l3]; omega)
          obtain ⟨ai, ci, hcell, _⟩ := hc t (by rw [HIN.out.l3]; exact hlt)
          obtain ⟨m, hm'⟩ : ∃ m, m = (L.getD t []).length := ⟨_, rfl⟩
          rw [← hm'] at hcell
          have HM : Hid (m = (L.getD t []).length) := hm'
          subst ha
          clear hm' hc
          by_cases hmb : m ≤ 131072
          · go_wp2
            · go_ret
              exact ⟨rfl, Below.refl _ _⟩
            go_round
            case rel => exact ⟨t + 1, _, by omega, by go_num, rfl, fun j hj => by by_cases e : j = t; (subst e; rw [← HM.out]; exact hmb); exact HALL.out j (by omega)⟩
            case measure => simp [intOf]; omega
          · go_wp2
            go_ret
            exact ⟨rfl, Below.refl _ _⟩
        · have hge : t = n3 := by omega
          subst hge
          clear hlt ht
          have hx : ¬ (n0 = k ∧ n2 = t) ∨ (n0 = k ∧ n2 = t) := by omega
          rcases hx with hx | ⟨rfl, rfl⟩
          · go_wp2_with fail
            all_goals (go_ret; exact ⟨rfl, Below.refl _ _⟩)
          go_wp2_with fail
          refine (newStore_any _).mono ?_
          rintro e w3 ⟨rfl, hB3, hS3, hz3⟩
          obtain ⟨s, hs⟩ : ∃ s, s = w.heap.size := ⟨_, rfl⟩
          rw [← hs] at hS3 hz3
          rw [← hs]
          have hsb : w.heap.size ≤ s := by omega
          have HKS3 : Hid (KS w.heap.size w3 s none (keptTo xs L 0)) := ⟨hsb, .inl ⟨hS3, rfl⟩⟩
          have HB3 : Hid (Below w.heap.size w w3) := hB3
          clear hs hS3 hz3 hB3
          go_wp2_with fail
          go_loopw [14] (fun i wr => ∃ k : Nat, k ≤ n2 ∧ i = .int .i64 k ∧ KS w.heap.size wr s none (keptTo xs L k) ∧ Below w.heap.size w wr) (fun i _ => n2 - (intOf i).toNat)
          case atStart => exact ⟨0, Nat.zero_le _, rfl, HKS3.out, HB3.out⟩
          case round =>
            obtain ⟨k, hk, rfl, hks, hB⟩ := hrel
            have HKS : Hid (KS w.heap.size wr s none (keptTo xs L k)) := hks
            clear hks HKS3 HB3
            by_cases hlt : k < n2
            · obtain ⟨b0, o0, ha0, hc0⟩ := HIN.out.r2 (by rw [HIN.out.l2]; omega)
              obtain ⟨b1, o1, ha1, hc1⟩ := HIN.out.r3 (by rw [HIN.out.l3]; omega)
              obtain ⟨x, hx⟩ : ∃ x, x = xs.getD k 0 := ⟨_, rfl⟩
              have k0 := hc0 k (by rw [HIN.out.l2]; exact hlt)
              obtain ⟨ai, ci, k1, hrow⟩ := hc1 k (by rw [HIN.out.l3]; exact hlt)
              obtain ⟨l, hl⟩ : ∃ l, l = L.getD k [] := ⟨_, rfl⟩
              rw [← hl] at k1 hrow
              obtain ⟨m, hm⟩ : ∃ m, m = l.length := ⟨_, rfl⟩
              rw [← hm] at k1
              have hmb : m ≤ 131072 := by rw [hm, hl]; exact HALL.out k hlt
              have hwx : (Lit.int .u64 x).wf = true := by rw [hx]; exact HIN.out.w2 k hlt
              rw [← hx] at k0
              have e0 : wr.cell? ⟨b0, o0 + k, none⟩ = some (.int .u64 x) := (hB.cell (p := ⟨b0, o0 + k, none⟩) (World.block_lt_of_cell? _ _ k0)).trans k0
              have e1 : wr.cell? ⟨b1, o1 + k, none⟩ = some (.slice ai m ci) := (hB.cell (p := ⟨b1, o1 + k, none⟩) (World.block_lt_of_cell? _ _ k1)).trans k1
              have hne0 : b0 ≠ s := by have := World.block_lt_of_cell? _ _ k0; simp at this; omega
              have hne1 : b1 ≠ s := by have := World.block_lt_of_cell? _ _ k1; simp at this; omega
              have HX : Hid (x = xs.getD k 0) := hx
              have HLl : Hid (l = L.getD k []) := hl
              have HM : Hid (l.length = m) := hm.symm
              have HROW : Hid (RowAt wr ai l) := hrow.below hB
              have g1 : (k : Int) < (n2 : Int) := by omega
              have g2 : (0 : Int) ≤ (k : Int) := by omega
              subst ha0 ha1
              clear hx hl hm hrow hc0 hc1 k0 k1
              go_wp2_with fail
              go_region_held3 (fun w' => w'.cell? ⟨b0, o0 + k, none⟩ = some (.int .u64 x) ∧ w'.cell? ⟨b1, o1 + k, none⟩ = some (.slice ai m ci)) (go_keep) ((go_at_call 12; refine (keep_any w.heap.size s x ai m ci l none (keptTo xs L k) _ HM.out (by omega) (by rw [keptTo_length]; omega) hwx (by exact HKS.out.same rfl) (by exact HROW.out)).mono ?_; rintro e w5 ⟨rfl, hks5, hk5, hb5⟩; have f0 := hk5.cell (a := ⟨b0, o0 + k, none⟩) hne0 e0; have f1 := hk5.cell (a := ⟨b1, o1 + k, none⟩) hne1 e1))
              go_wp2_with fail
              go_roundw
              case rel => exact ⟨k + 1, by omega, by go_num, by rw [keptTo, ← HX.out, ← HLl.out]; exact hks5, hB.drew.trans hb5⟩
              case measure => simp [intOf]; omega
            · have hge : k = n2 := by omega
              subst hge
              clear hlt hk
              have hmh := fun (q : IntKind) (n : Int) (w : World) => run_makeMap_hint Try.underlying47 q n w
              go_wp2_with fail
              obtain ⟨V, hV⟩ : ∃ V, V = wr := ⟨_, rfl⟩
              subst hV
              go_loopw [15, 16, 17] (fun i _ _ wr => ∃ t : Nat, t ≤ n0 ∧ i = .int .i64 t ∧ KS w.heap.size wr s none (keptTo xs L k) ∧ Below w.heap.size w wr) (fun i _ _ _ => n0 - (intOf i).toNat)
              case atStart => exact ⟨0, Nat.zero_le _, rfl, HKS.out, hB⟩
              case round =>
                clear HKS hB
                obtain ⟨t, ht, rfl, hks, hB⟩ := hrel
                have HKS : Hid (KS w.heap.size wr s none (keptTo xs L k)) := hks
                clear hks
                by_cases hlt : t < n0
                · obtain ⟨b0, o0, ha0, hc0⟩ := HIN.out.r0 (by rw [HIN.out.l0]; omega)
                  obtain ⟨b1, o1, ha1, hc1⟩ := HIN.out.r1 (by rw [HIN.out.l1]; omega)
                  have k0 := hc0 t (by rw [HIN.out.l0]; exact hlt)
                  obtain ⟨ai, ci, k1, hrow⟩ := hc1 t (by rw [HIN.out.l1]; exact hlt)
                  obtain ⟨hp0, hp1⟩ := HIN.out.w0 t hlt
                  obtain ⟨pt, hpt⟩ : ∃ pt : Nat, B.getD t 0 = (pt : Int) := Int.eq_ofNat_of_zero_le hp0
                  rw [hpt] at k0 hp1
                  have hpt2 : pt < 256 := by omega
                  obtain ⟨l, hl⟩ : ∃ l, l = S.getD t [] := ⟨_, rfl⟩
                  rw [← hl] at k1 hrow
                  obtain ⟨m, hm⟩ : ∃ m, m = l.length := ⟨_, rfl⟩
                  rw [← hm] at k1
                  have hmb : m ≤ 131072 := by rw [hm, hl]; exact HALS.out t hlt
                  have HK0 : Hid (w.cell? ⟨b0, o0 + t, none⟩ = some (.int .u8 pt)) := k0
                  have HK1c : Hid (w.cell? ⟨b1, o1 + t, none⟩ = some (.slice ai m ci)) := k1
                  have e0 : wr.cell? ⟨b0, o0 + t, none⟩ = some (.int .u8 pt) := (hB.cell (p := ⟨b0, o0 + t, none⟩) (World.block_lt_of_cell? _ _ k0)).trans k0
                  have e1 : wr.cell? ⟨b1, o1 + t, none⟩ = some (.slice ai m ci) := (hB.cell (p := ⟨b1, o1 + t, none⟩) (World.block_lt_of_cell? _ _ k1)).trans k1
                  have HM : Hid (m = l.length) := hm
                  have HROW : Hid (RowS w ai l) := hrow
                  have HK1 : Hid (KS w.heap.size (wr.alloc (.map #[] 0)) s none (keptTo xs L k) ∧ (wr.alloc (.map #[] 0)).cell? ⟨s, 4870, none⟩ ≠ some (.map (some wr.heap.size))) := by
                    have h := HKS.out.grown (World.grownBy_alloc wr (.map #[] 0) none) (fun b e => by cases e) (fun b e => by cases e)
                    exact ⟨h.1, by rw [h.2]; exact HKS.out.fresh⟩
                  have HO1 : Hid ((wr.alloc (.map #[] 0)).ownsMap Try.prog 9 (unitElem (H := Unit)) wr.heap.size 0 (.map [])) := World.ownsMap_made _ _ _ _
                  have HB1 : Hid (Below w.heap.size w (wr.alloc (.map #[] 0))) := hB.alloc hB.size _
                  obtain ⟨pm, hpm⟩ : ∃ pm, pm = wr.heap.size := ⟨_, rfl⟩
                  rw [← hpm] at HO1 HK1
                  have hpmb : w.heap.size ≤ pm := by rw [hpm]; exact hB.size
                  have HPM : Hid (pm = wr.heap.size) := hpm
                  subst ha0 ha1
                  clear hpm hc0 hc1 k0 k1 hpt hl hm hrow
                  go_wp2_with fail
                  rw [← HPM.out]
                  obtain ⟨V2, hV2⟩ : ∃ V2, V2 = wr := ⟨_, rfl⟩
                  subst hV2
                  have hV : V2.heap.size = V2.heap.size := rfl
                  go_loopw [17] (fun i wr => ∃ (q : Nat) (D : DataW Unit), q ≤ m ∧ i = .int .i64 q ∧ wr.ownsMap Try.prog 9 (unitElem (H := Unit)) pm q D ∧ KS w.heap.size wr s none (keptTo xs L k) ∧ wr.cell? ⟨s, 4870, none⟩ ≠ some (.map (some pm)) ∧ Below w.heap.size w wr) (fun i _ => m - (intOf i).toNat)
                  case atStart => exact ⟨0, _, Nat.zero_le _, rfl, HO1.out, HK1.out.1, HK1.out.2, HB1.out⟩
                  case round =>
                    clear HKS hB HO1 HK1 HB1 HPM e0 e1
                    obtain ⟨q, D, hq, rfl, hown, hks, hne, hB⟩ := hrel
                    have HKS : Hid (KS w.heap.size wr s none (keptTo xs L k)) := hks
                    have HOWN : Hid (wr.ownsMap Try.prog 9 (unitElem (H := Unit)) pm q D) := hown
                    have HNE : Hid (wr.cell? ⟨s, 4870, none⟩ ≠ some (.map (some pm))) := hne
                    have e0 : wr.cell? ⟨b0, o0 + t, none⟩ = some (.int .u8 pt) := (hB.cell (p := ⟨b0, o0 + t, none⟩) (World.block_lt_of_cell? _ _ HK0.out)).trans HK0.out
                    have e1 : wr.cell? ⟨b1, o1 + t, none⟩ = some (.slice ai m ci) := (hB.cell (p := ⟨b1, o1 + t, none⟩) (World.block_lt_of_cell? _ _ HK1c.out)).trans HK1c.out
                    clear hks hown hne
                    by_cases hlt2 : q < m
                    · obtain ⟨b2, o2, hai, hc2⟩ := HROW.out (by rw [← HM.out]; omega)
                      obtain ⟨hs, hsz⟩ := hc2 q (by rw [← HM.out]; exact hlt2)
                      obtain ⟨st, hst⟩ : ∃ st, st = l.getD q ByteArray.empty := ⟨_, rfl⟩
                      rw [← hst] at hs hsz
                      have e2 : wr.cell? ⟨b2, o2 + q, none⟩ = some (.string st) := (hB.cell (p := ⟨b2, o2 + q, none⟩) (World.block_lt_of_cell? _ _ hs)).trans hs
                      have g3 : (q : Int) < (m : Int) := by omega
                      subst hai
                      clear hc2 hst hs
                      go_wp2_with (at_mapUpdate; refine wpList_mapUpdate_own _ rfl _ _ _ 47 rfl 9 48 lawS Try.underlying47 (unitElem (H := Unit)) pm q D rfl HOWN.out (by unfold maxLen; omega) _ _ _ rfl rfl (WideMaps.keyOf_string_mk Try.underlying9 hsz) _ [] unitElem_mk ?_; intro w8 hown8 hgrow8)
                      have hks8 := HKS.out.grown hgrow8 (fun b e cs t fr hh => by cases e; exact map_not_cells HOWN.out _ _ _ hh) (fun b e => by cases e; exact HNE.out)
                      go_roundw
                      case rel => exact ⟨q + 1, _, by omega, by go_num, hown8, hks8.1, by rw [hks8.2]; exact HNE.out, hB.grown hgrow8 hB.size (fun b e => by cases e; exact hpmb)⟩
                      case measure => simp [intOf]; omega
                    · have hge2 : ¬ ((q : Int) < (m : Int)) := by omega
                      go_wp2_with fail
                      refine (setWritten_any pt (some pm) _ hpt2 HKS.out).mono ?_
                      rintro e w9 ⟨rfl, hks9, hg9⟩
                      go_wp2_with fail
                      refine ⟨⟨t + 1, by omega, by go_num, hks9, hB.grown hg9 hB.size (fun b e => by cases e; exact hsb)⟩, by simp [intOf]; omega⟩
                · have hge : t = n0 := by omega
                  subst hge
                  clear hlt ht
                  go_wp2_with fail
                  refine (filled_more w.heap.size s none (keptTo xs L k) wr (by rw [keptTo_length]; omega) HKS.out).mono ?_
                  rintro e w4 ⟨rfl, rb1, Dr1, hks4, hr1, hrp1, hwr4, _, hb4, hg4⟩
                  have HKS4 : Hid (KS w.heap.size w4 s (some rb1) (keptTo xs L k)) := hks4
                  have HR1 : Hid (w4.ownsMap Try.prog 22 (plainElem Try.prog 22) rb1 (keptTo xs L k).length Dr1) := hr1
                  have HP1 : Hid (RefPart Dr1 (fun _ => false) (keptTo xs L k)) := hrp1
                  have HW4 : Hid (∀ i, i < 256 → w4.cell? ⟨s, 4 + i * 19 + 14, none⟩ = some (.map none)) := hwr4
                  have HB4 : Hid (Below w.heap.size w w4) := hB.trans hb4
                  clear hks4 hr1 hrp1 hwr4 hb4 hg4 hB HKS
                  go_wp2_with fail
                  refine (refilled_any w4 HKS4.out).mono ?_
                  rintro e w5 ⟨rfl, hw5⟩
                  subst w5
                  have qT := fun (w : World) (r : Option Nat) => run_eql_map_nil (P := Try.prog) w 39 22 22 r Try.underlying39
                  have qN := fun (w : World) (r : Option Nat) => run_neq_map_nil (P := Try.prog) w 47 9 48 r Try.underlying47
                  go_wp2_with fail
                  go_loop [19] (fun i => ∃ q : Nat, q ≤ 256 ∧ i = .int .i64 q) (fun i => 256 - (intOf i).toNat)
                  case atStart => exact ⟨0, Nat.zero_le _, rfl⟩
                  case round =>
                    obtain ⟨q, hq, rfl⟩ := hrel
                    by_cases hlt2 : q < 256
                    · have hlt3 : (q : Int) < 256 := by omega
                      go_wp2_with fail
                      refine (written_any q none _ hlt2 (HW4.out q hlt2)).mono ?_
                      rintro e w5 ⟨rfl, hw5⟩
                      subst w5
                      go_wp2_with fail
                      go_round
                      case rel => exact ⟨q + 1, by omega, by go_num⟩
                      case measure => simp [intOf]; omega
                    · have hlt3 : ¬ ((q : Int) < 256) := by omega
                      go_wp2_with fail
                      refine (filled_more w.heap.size s (some rb1) (keptTo xs L k) w4 (by rw [keptTo_length]; omega) HKS4.out).mono ?_
                      rintro e w6 ⟨rfl, rb2, Dr2, hks6, hr2, hrp2, hwr6, _, hb6, hg6⟩
                      have hdd : Dr1 = Dr2 := ref_same (HR1.out.canon law22) (hr2.canon law22) HP1.out hrp2
                      subst hdd
                      have HKS6 : Hid (KS w.heap.size w6 s (some rb2) (keptTo xs L k)) := hks6
                      have HR2 : Hid (w6.ownsMap Try.prog 22 (plainElem Try.prog 22) rb2 (keptTo xs L k).length Dr1) := hr2
                      have HR1b : Hid (w6.ownsMap Try.prog 22 (plainElem Try.prog 22) rb1 (keptTo xs L k).length Dr1) := HR1.out.kept hg6 (fun e => by
                        cases e
                        obtain ⟨k', hst⟩ := HKS4.out.store
                        obtain ⟨cs, e, fr, hsc⟩ := cells_of_cell hst.mu
                        exact map_not_cells HR1.out _ _ _ hsc)
                      have HW6 : Hid (∀ i, i < 256 → w6.cell? ⟨s, 4 + i * 19 + 14, none⟩ = some (.map none)) := hwr6
                      have HB6 : Hid (Below w.heap.size w w6) := HB4.out.trans hb6
                      clear hks6 hr2 hrp2 hwr6 hb6 hg6 HB4 HW4 HR1 HKS4
                      go_wp2_with fail
                      refine (refilled_any w6 HKS6.out).mono ?_
                      rintro e w5 ⟨rfl, hw5⟩
                      subst w5
                      have ql1 := HR1b.out.len Try.underlying39 3
                      have ql2 := HR2.out.len Try.underlying39 3
                      have hsz : ((Maps.size Dr1 : Int) != (Maps.size Dr1 : Int)) = false := by simp
                      go_wp2_with fail
                      go_loop [21, 22, 23, 24, 25] (fun i _ _ _ _ => ∃ v : Nat, v ≤ k ∧ i = .int .i64 v) (fun i _ _ _ _ => k - (intOf i).toNat)
                      case atStart => exact ⟨0, Nat.zero_le _, rfl⟩
                      case round =>
                        obtain ⟨v, hv, rfl⟩ := hrel
                        by_cases hlt4 : v < k
                        · obtain ⟨b0, o0, ha0, hc0⟩ := HIN.out.r2 (by rw [HIN.out.l2]; omega)
                          obtain ⟨x, hx⟩ : ∃ x, x = xs.getD v 0 := ⟨_, rfl⟩
                          have k0 := hc0 v (by rw [HIN.out.l2]; exact hlt4)
                          have hwx : (Lit.int .u64 x).wf = true := by rw [hx]; exact HIN.out.w2 v hlt4
                          rw [← hx] at k0
                          have e0 : w6.cell? ⟨b0, o0 + v, none⟩ = some (.int .u64 x) := (HB6.out.cell (p := ⟨b0, o0 + v, none⟩) (World.block_lt_of_cell? _ _ k0)).trans k0
                          obtain ⟨c, _, hat, _⟩ := HR2.out.lookup_int law22 Try.underlying39 Try.underlying22 (zero22 _) (Maps.keyOf_int_mk Try.underlying22 hwx)
                          obtain ⟨bo, hbo⟩ : ∃ bo, Maps.has Dr1 (.int .u64 x) = bo := ⟨_, rfl⟩
                          have hb2 : (bo != bo) = false := by simp
                          have hc2 : ((c : Int) != c) = false := by simp
                          have HAT : Hid (Dr1.atKey (.int .u64 x) (.lit (.int .u64 0)) = .lit (.int .u64 c)) := hat
                          have HBO : Hid (Maps.has Dr1 (.int .u64 x) = bo) := hbo
                          subst ha0
                          clear hx hc0 k0 hat hbo
                          have hlt5 : (v : Int) < (k : Int) := by omega
                          go_wp2_with (first | (refine wpList_lookup_at rfl _ _ rfl rb1 _ Dr1 x c bo rfl rfl HR1b.out hwx HAT.out HBO.out ?_) | (refine wpList_lookup_at rfl _ _ rfl rb2 _ Dr1 x c bo rfl rfl HR2.out hwx HAT.out HBO.out ?_))
                          go_round
                          case rel => exact ⟨v + 1, by omega, by go_num⟩
                          case measure => simp [intOf]; omega
                        · have hlt5 : ¬ ((v : Int) < (k : Int)) := by omega
                          go_wp2_with fail
                          go_loop [26] (fun i => ∃ z : Nat, z ≤ 256 ∧ i = .int .i64 z) (fun i => 256 - (intOf i).toNat)
                          case atStart => exact ⟨0, Nat.zero_le _, rfl⟩
                          case round =>
                            obtain ⟨z, hz, rfl⟩ := hrel
                            by_cases hlt6 : z < 256
                            · have hlt7 : (z : Int) < 256 := by omega
                              go_wp2_with fail
                              refine (written_any z none _ hlt6 (HW6.out z hlt6)).mono ?_
                              rintro e w5 ⟨rfl, hw5⟩
                              subst w5
                              go_wp2_with fail
                              go_round
                              case rel => exact ⟨z + 1, by omega, by go_num⟩
                              case measure => simp [intOf]; omega
                            · have hlt7 : ¬ ((z : Int) < 256) := by omega
                              go_wp2_with fail
                              go_ret
                              exact ⟨rfl, HB6.out⟩
end Go.Proofs.Qxb6616935a
