/-
  THE WALK OF FnFilledBoundsEachNodeOnePastItsGreatestKeptSeq.
-/
import Derived.Test.Qxb6616935aLawCalls
import Derived.Deep.QuietTactic
import Derived.BigQuiet
import Derived.Deep.DeepCutAuto
import Derived.Deep.RegionHeld3
import Derived.Deep.DrawnRows
import Derived.WalkSmall
namespace Go.Proofs.Qxb6616935a
open Go.RowKit
set_option linter.unusedVariables false

/-- The law's arguments, as the walk takes them. -/
structure In1 (w : World) (a0 : Option Addr) (n0 : Nat) (xs : List Int) (a1 : Option Addr) (n1 : Nat) (L : List (List Int)) (a2 : Option Addr) (n2 : Nat) (ps : List Int) (a3 : Option Addr) (n3 : Nat) (qs : List Int) : Prop where
  l0 : xs.length = n0
  l1 : L.length = n1
  l2 : ps.length = n2
  l3 : qs.length = n3
  r0 : RowAt w a0 xs
  r1 : Rows2 w a1 L
  r2 : RowAt w a2 ps
  r3 : RowAt w a3 qs
  w0 : ∀ i, i < n0 → (Lit.int .u64 (xs.getD i 0)).wf = true
  w1 : ∀ i j, i < n1 → j < (L.getD i []).length → (Lit.int .u64 ((L.getD i []).getD j 0)).wf = true
  w2 : ∀ i, i < n2 → (Lit.int .u64 (ps.getD i 0)).wf = true
  w3 : ∀ i, i < n3 → (Lit.int .u64 (qs.getD i 0)).wf = true

theorem zero3 (w : World) : (zeroValue 3).run Try.prog w = .ok (.int .i64 0) w := by kernel_rfl
theorem zero22 (w : World) : (zeroValue 22).run Try.prog w = .ok (.int .u64 0) w := by kernel_rfl

/-- 'last[nodes[i]]'. -/
theorem wpList_lookup_last {w : World} {ops : Array Oper} {rest : List Oper} {o : Oper} {a : Act} {Q : Exit → Act → World → Prop} (hg : o.guard = none) (m x : Operand) (hop : o.op = Op.lookup 42 m x false) (b n : Nat) (D : DataW Unit) (xs : List Int) (k i j : Nat) (X : Int)
    (hm : a.eval m = .map (some b)) (hx : a.eval x = .int .u64 X) (hX : X = xs.getD i 0) (hown : w.ownsMap Try.prog 22 (plainElem Try.prog 3) b n D) (hw : (Lit.int .u64 X).wf = true) (hL : LastMap xs D k) (hj : lastIdx xs k (xs.getD i 0) = some j)
    (hK : wpList Try.prog ops Q rest (a.put o.dst (.int .i64 (j : Int))) w) : wpList Try.prog ops Q (o :: rest) a w := by
  refine wpList_lookup_own_int w hg m x 42 hop 22 3 .i64 law22 Try.underlying42 Try.underlying3 (zero3 _) b n D hm hown _ _ hx (Maps.keyOf_int_mk Try.underlying22 hw) ?_
  intro c hat _
  rw [hX, lastMap_at hL hj] at hat
  simp at hat
  rw [← hat]
  exact hK

/-- 'r, ok := got[nodes[i]]', the node keeping something. -/
theorem wpList_lookup_got {w : World} {ops : Array Oper} {rest : List Oper} {o : Oper} {a : Act} {Q : Exit → Act → World → Prop} (hg : o.guard = none) (m x : Operand) (hop : o.op = Op.lookup 39 m x true) (b n : Nat) (D : DataW Unit) (G : List (Int × List Int)) (X : Int) (l : List Int)
    (hm : a.eval m = .map (some b)) (hx : a.eval x = .int .u64 X) (hown : w.ownsMap Try.prog 22 (plainElem Try.prog 22) b n D) (hw : (Lit.int .u64 X).wf = true) (hR : RefPart D (fun _ => false) G) (hl : lastOf G X = some l) (hp : 0 < l.length)
    (hK : wpList Try.prog ops Q rest (a.put o.dst (.tuple #[.int .u64 (nextOf l), .bool true])) w) : wpList Try.prog ops Q (o :: rest) a w := by
  refine wpList_lookup_own_ok_int w hg m x 39 hop 22 22 .u64 law22 Try.underlying39 Try.underlying22 (zero22 _) b n D hm hown _ _ hx (Maps.keyOf_int_mk Try.underlying22 hw) ?_
  intro c hat _
  obtain ⟨h1, h2⟩ := hR.holds X l hw hl hp rfl
  rw [h2] at hat
  simp at hat
  rw [h1, ← hat]
  exact hK

/-- .. the node keeping nothing. -/
theorem wpList_lookup_none {w : World} {ops : Array Oper} {rest : List Oper} {o : Oper} {a : Act} {Q : Exit → Act → World → Prop} (hg : o.guard = none) (m x : Operand) (hop : o.op = Op.lookup 39 m x true) (b n : Nat) (D : DataW Unit) (G : List (Int × List Int)) (X : Int) (l : List Int)
    (hm : a.eval m = .map (some b)) (hx : a.eval x = .int .u64 X) (hown : w.ownsMap Try.prog 22 (plainElem Try.prog 22) b n D) (hw : (Lit.int .u64 X).wf = true) (hR : RefPart D (fun _ => false) G) (hl : lastOf G X = some l) (hp : l.length = 0)
    (hK : ∀ c, wpList Try.prog ops Q rest (a.put o.dst (.tuple #[.int .u64 c, .bool false])) w) : wpList Try.prog ops Q (o :: rest) a w := by
  refine wpList_lookup_own_ok_int w hg m x 39 hop 22 22 .u64 law22 Try.underlying39 Try.underlying22 (zero22 _) b n D hm hown _ _ hx (Maps.keyOf_int_mk Try.underlying22 hw) ?_
  intro c _ _
  have : Maps.has D (.int .u64 X) = false := by
    cases h : Maps.has D (.int .u64 X) with
    | false => rfl
    | true =>
      obtain ⟨x', l', e, _, hl', hp', _⟩ := hR.known _ h
      cases e
      rw [hl] at hl'
      cases hl'
      omega
  rw [this]
  exact hK c

theorem KS.same {base s : Nat} {r : Option Nat} {G : List (Int × List Int)} {w w' : World} (h : KS base w s r G) (e : w'.heap = w.heap) : KS base w' s r G := by
  obtain ⟨hbs, h⟩ := h
  have hk : Keeps s w w' := fun j cs t fr _ hh => by rw [e]; exact hh
  refine ⟨hbs, ?_⟩
  rcases h with ⟨h, hG⟩ | ⟨b, D, hbb, h, ⟨es, c, ho⟩, hr⟩
  · exact .inl ⟨h.of_block (by rw [e]), hG⟩
  · exact .inr ⟨b, D, hbb, h.of_block (by rw [e]), ⟨es, c, by rw [e]; exact ho⟩, hr.keeps hk⟩
theorem KS.store {base s : Nat} {r : Option Nat} {G : List (Int × List Int)} {w : World} (h : KS base w s r G) : ∃ k, StoreAt w s k r := by
  rcases h.2 with ⟨h, _⟩ | ⟨b, D, _, h, _⟩
  · exact ⟨_, h⟩
  · exact ⟨_, h⟩
theorem KS.grown {base s : Nat} {r : Option Nat} {G : List (Int × List Int)} {w w' : World} {row : Option Nat} (h : KS base w s r G) (hg : w.grownBy w' row) (hr : ∀ b, row = some b → ∀ cs e fr, w.heap[b]? ≠ some (.cells cs e fr))
    (hm : ∀ b, row = some b → w.cell? ⟨s, 4870, none⟩ ≠ some (.map (some b))) : KS base w' s r G ∧ w'.cell? ⟨s, 4870, none⟩ = w.cell? ⟨s, 4870, none⟩ := by
  obtain ⟨k, hst⟩ := h.store
  have hc : w'.cell? ⟨s, 4870, none⟩ = w.cell? ⟨s, 4870, none⟩ := by rw [(hst.grown hg hr).kept, hst.kept]
  obtain ⟨hbs, h⟩ := h
  refine ⟨⟨hbs, ?_⟩, hc⟩
  rcases h with ⟨h, hG⟩ | ⟨b, D, hbb, h, ho, hrd⟩
  · exact .inl ⟨h.grown hg hr, hG⟩
  · exact .inr ⟨b, D, hbb, h.grown hg hr, ho.kept hg (fun e => hm b e.symm h.kept), hrd.keeps ((Keeps.refl s w).grown hg hr)⟩
theorem KS.fresh {base s : Nat} {r : Option Nat} {G : List (Int × List Int)} {w : World} (h : KS base w s r G) : w.cell? ⟨s, 4870, none⟩ ≠ some (.map (some w.heap.size)) := by
  rcases h.2 with ⟨h, _⟩ | ⟨b, D, _, h, ho, _⟩
  · rw [h.kept]; simp
  · rw [h.kept]
    intro e
    have := ho.lt
    simp at e
    omega
theorem RowAt.below {w w' : World} {a : Option Addr} {l : List Int} (hb : Below w.heap.size w w') (h : RowAt w a l) : RowAt w' a l := by
  intro hl
  obtain ⟨b, off, rfl, hc⟩ := h hl
  exact ⟨b, off, rfl, fun i hi => (hb.cell (p := ⟨b, off + i, none⟩) (World.block_lt_of_cell? _ _ (hc i hi))).trans (hc i hi)⟩

set_option maxRecDepth 100000 in
set_option maxHeartbeats 8000000 in
theorem bounds_any (a0 : Option Addr) (n0 c0 : Nat) (xs : List Int) (a1 : Option Addr) (n1 c1 : Nat) (L : List (List Int)) (a2 : Option Addr) (n2 c2 : Nat) (ps : List Int) (a3 : Option Addr) (n3 c3 : Nat) (qs : List Int) (w : World)
    (hin : In1 w a0 n0 xs a1 n1 L a2 n2 ps a3 n3 qs) (m0 : n0 ≤ 131072) (m1 : n1 ≤ 131072) (m2 : n2 ≤ 131072) (m3 : n3 ≤ 131072) :
    Calls Try.prog 4 #[.slice a0 n0 c0, .slice a1 n1 c1, .slice a2 n2 c2, .slice a3 n3 c3] w fun e w' => e = .returned (.bool true) ∧ Below w.heap.size w w' := by
  have HIN : Hid (In1 w a0 n0 xs a1 n1 L a2 n2 ps a3 n3 qs) := hin
  clear hin
  go_enter Try.func4, Try.ntmps4
  go_wp2_with fail
  refine (bytes1_any _ _ _ _ _ _ _ _ _ _ _ _ L _ (by unfold maxLen; omega) HIN.out.l1 HIN.out.r1).mono ?_
  rintro e w' ⟨⟨bo, rfl⟩, hw⟩
  subst w'
  cases bo
  · go_wp2_with fail
    go_ret
    exact ⟨rfl, Below.refl _ _⟩
  go_wp2_with fail
  · go_ret
    exact ⟨rfl, Below.refl _ _⟩
  go_loop [9, 10] (fun z i => ∃ (k : Nat) (y : Int), k ≤ n1 ∧ i = .int .i64 k ∧ z = .int .i64 y ∧ ∀ j, j < k → (L.getD j []).length ≤ 131072) (fun _ i => n1 - (intOf i).toNat)
  case atStart => exact ⟨0, _, Nat.zero_le _, rfl, rfl, fun j hj => absurd hj (by omega)⟩
  case round =>
    obtain ⟨k, y, hk, rfl, rfl, hall⟩ := hrel
    have HALL : Hid (∀ j, j < k → (L.getD j []).length ≤ 131072) := hall
    clear hall
    by_cases hlt : k < n1
    · obtain ⟨b, off, ha, hc⟩ := HIN.out.r1 (by rw [HIN.out.l1]; omega)
      obtain ⟨ai, ci, hcell, _⟩ := hc k (by rw [HIN.out.l1]; exact hlt)
      obtain ⟨m, hm'⟩ : ∃ m, m = (L.getD k []).length := ⟨_, rfl⟩
      rw [← hm'] at hcell
      have HM : Hid (m = (L.getD k []).length) := hm'
      subst ha
      clear hm' hc
      by_cases hmb : m ≤ 131072
      · go_wp2
        · go_ret
          exact ⟨rfl, Below.refl _ _⟩
        go_round
        case rel => exact ⟨k + 1, _, by omega, by go_num, rfl, fun j hj => by by_cases e : j = k; (subst e; rw [← HM.out]; exact hmb); exact HALL.out j (by omega)⟩
        case measure => simp [intOf]; omega
      · go_wp2
        go_ret
        exact ⟨rfl, Below.refl _ _⟩
    · have hge : k = n1 := by omega
      subst hge
      have hx : ¬ (n0 = k ∧ n2 = n3) ∨ (n0 = k ∧ n2 = n3) := by omega
      rcases hx with hx | ⟨rfl, rfl⟩
      · go_wp2_with fail
        all_goals (go_ret; exact ⟨rfl, Below.refl _ _⟩)
      clear hlt hk
      go_wp2_with fail
      go_loopw [11, 12] (fun i _ wr => ∃ t : Nat, t ≤ n0 ∧ i = .int .i64 t ∧ (∀ j, j < t → Asc (L.getD j [])) ∧ Below w.heap.size w wr) (fun i _ _ => n0 - (intOf i).toNat)
      case atStart => exact ⟨0, Nat.zero_le _, rfl, fun j hj => absurd hj (by omega), Below.refl _ _⟩
      case round =>
        obtain ⟨t, ht, rfl, hasc, hB⟩ := hrel
        have HASC : Hid (∀ j, j < t → Asc (L.getD j [])) := hasc
        clear hasc
        by_cases hlt : t < n0
        · obtain ⟨b, off, ha, hc⟩ := HIN.out.r1 (by rw [HIN.out.l1]; omega)
          obtain ⟨ai, ci, hcell0, hrow⟩ := hc t (by rw [HIN.out.l1]; exact hlt)
          have hblt : b < w.heap.size := World.block_lt_of_cell? _ _ hcell0
          obtain ⟨l, hl⟩ : ∃ l, l = L.getD t [] := ⟨_, rfl⟩
          rw [← hl] at hcell0 hrow
          obtain ⟨m, hm⟩ : ∃ m, m = l.length := ⟨_, rfl⟩
          rw [← hm] at hcell0
          have hmb : m ≤ 131072 := by rw [hm, hl]; exact HALL.out t hlt
          have HLl : Hid (l = L.getD t []) := hl
          have HM : Hid (m = l.length) := hm
          have HROW : Hid (RowAt w ai l) := hrow
          have HC0 : Hid (w.cell? ⟨b, off + t, none⟩ = some (.slice ai m ci)) := hcell0
          subst ha
          clear hl hm hrow hc hcell0
          have hcell : wr.cell? ⟨b, off + t, none⟩ = some (.slice ai m ci) := (hB.cell (p := ⟨b, off + t, none⟩) hblt).trans HC0.out
          go_wp2_with fail
          obtain ⟨V, hV⟩ : ∃ V, V = wr := ⟨_, rfl⟩
          subst hV
          go_loopw [12] (fun j wr => ∃ q : Nat, j = .int .i64 ((q : Int) + 1) ∧ (q = 0 ∨ q < m) ∧ (∀ p, p < q → l.getD p 0 < l.getD (p + 1) 0) ∧ Below w.heap.size w wr) (fun j _ => m - (intOf j).toNat)
          case atStart => exact ⟨0, by simp, .inl rfl, fun p hp => absurd hp (by omega), hB⟩
          case round =>
            obtain ⟨q, rfl, hqm, hup, hBr⟩ := hrel
            have HUP : Hid (∀ p, p < q → l.getD p 0 < l.getD (p + 1) 0) := hup
            have hcellr : wr.cell? ⟨b, off + t, none⟩ = some (.slice ai m ci) := (hBr.cell (p := ⟨b, off + t, none⟩) hblt).trans HC0.out
            clear hup hcell
            by_cases hq : q + 1 < m
            · obtain ⟨b2, o2, hai, hc2⟩ := HROW.out (by rw [← HM.out]; omega)
              obtain ⟨x1, hx1⟩ : ∃ x, x = l.getD q 0 := ⟨_, rfl⟩
              obtain ⟨x2, hx2⟩ : ∃ x, x = l.getD (q + 1) 0 := ⟨_, rfl⟩
              have k1 := hc2 q (by rw [← HM.out]; omega)
              have k2 := hc2 (q + 1) (by rw [← HM.out]; omega)
              have hb2 : b2 < w.heap.size := World.block_lt_of_cell? _ _ k1
              rw [← hx1] at k1
              rw [← hx2] at k2
              have e1 : wr.cell? ⟨b2, o2 + q, none⟩ = some (.int .u64 x1) := (hBr.cell (p := ⟨b2, o2 + q, none⟩) hb2).trans k1
              have e2 : wr.cell? ⟨b2, o2 + (q + 1), none⟩ = some (.int .u64 x2) := (hBr.cell (p := ⟨b2, o2 + (q + 1), none⟩) hb2).trans k2
              have HX1 : Hid (x1 = l.getD q 0) := hx1
              have HX2 : Hid (x2 = l.getD (q + 1) 0) := hx2
              have g1 : (q : Int) < (m : Int) := by omega
              have g2 : (q : Int) + 1 < (m : Int) := by omega
              have g3 : (0 : Int) ≤ (q : Int) := by omega
              have g4 : (t : Int) < (n0 : Int) := by omega
              subst hai
              clear hx1 hx2 k1 k2 hc2 hqm
              go_wp2_with fail
              go_quiet (fail)
              go_wp2
              · go_ret
                exact ⟨rfl, below_drewN hBr _⟩
              · have hlt2 : x1 < x2 := by assumption
                go_roundw
                case rel => exact ⟨q + 1, by go_num, .inr hq, fun p hp => by by_cases e : p = q; (subst e; rw [← HX1.out, ← HX2.out]; exact hlt2); exact HUP.out p (by omega), below_drewN hBr _⟩
                case measure => simp [intOf]; omega
            · have hq2 : ¬ ((q : Int) + 1 < (m : Int)) := by omega
              go_wp2_with fail
              go_roundw
              case rel => exact ⟨t + 1, by omega, by go_num, fun j hj => by by_cases e : j = t; (subst e; rw [← HLl.out]; exact fun p hp => HUP.out p (by have := HM.out; omega)); exact HASC.out j (by omega), hBr⟩
              case measure => simp [intOf]; omega
        · have hge : t = n0 := by omega
          subst hge
          clear hlt ht
          go_wp2_with fail
          refine (newStore_any _).mono ?_
          rintro e w3 ⟨rfl, hB3, hS3, hz3⟩
          obtain ⟨s, hs⟩ : ∃ s, s = wr.heap.size := ⟨_, rfl⟩
          rw [← hs] at hS3 hz3
          rw [← hs]
          have hsb : w.heap.size ≤ s := by rw [hs]; exact hB.size
          have HKS3 : Hid (KS w.heap.size w3 s none (keptTo xs L 0)) := ⟨hsb, .inl ⟨hS3, rfl⟩⟩
          have HB3 : Hid (Below w.heap.size w w3) := hB.trans (hB3.mono hB.size)
          clear hs hS3 hz3 hB3 hB
          go_wp2_with fail
          go_loopw [14] (fun i wr => ∃ k : Nat, k ≤ t ∧ i = .int .i64 k ∧ KS w.heap.size wr s none (keptTo xs L k) ∧ Below w.heap.size w wr) (fun i _ => t - (intOf i).toNat)
          case atStart => exact ⟨0, Nat.zero_le _, rfl, HKS3.out, HB3.out⟩
          case round =>
            obtain ⟨k, hk, rfl, hks, hB⟩ := hrel
            have HKS : Hid (KS w.heap.size wr s none (keptTo xs L k)) := hks
            clear hks
            by_cases hlt : k < t
            · obtain ⟨b0, o0, ha0, hc0⟩ := HIN.out.r0 (by rw [HIN.out.l0]; omega)
              obtain ⟨b1, o1, ha1, hc1⟩ := HIN.out.r1 (by rw [HIN.out.l1]; omega)
              obtain ⟨x, hx⟩ : ∃ x, x = xs.getD k 0 := ⟨_, rfl⟩
              have k0 := hc0 k (by rw [HIN.out.l0]; exact hlt)
              obtain ⟨ai, ci, k1, hrow⟩ := hc1 k (by rw [HIN.out.l1]; exact hlt)
              obtain ⟨l, hl⟩ : ∃ l, l = L.getD k [] := ⟨_, rfl⟩
              rw [← hl] at k1 hrow
              obtain ⟨m, hm⟩ : ∃ m, m = l.length := ⟨_, rfl⟩
              rw [← hm] at k1
              have hmb : m ≤ 131072 := by rw [hm, hl]; exact HALL.out k hlt
              have hwx : (Lit.int .u64 x).wf = true := by rw [hx]; exact HIN.out.w0 k hlt
              rw [← hx] at k0
              have e0 : wr.cell? ⟨b0, o0 + k, none⟩ = some (.int .u64 x) := (hB.cell (p := ⟨b0, o0 + k, none⟩) (World.block_lt_of_cell? _ _ k0)).trans k0
              have e1 : wr.cell? ⟨b1, o1 + k, none⟩ = some (.slice ai m ci) := (hB.cell (p := ⟨b1, o1 + k, none⟩) (World.block_lt_of_cell? _ _ k1)).trans k1
              have hne0 : b0 ≠ s := by have := World.block_lt_of_cell? _ _ k0; simp at this; omega
              have hne1 : b1 ≠ s := by have := World.block_lt_of_cell? _ _ k1; simp at this; omega
              have HX : Hid (x = xs.getD k 0) := hx
              have HLl : Hid (l = L.getD k []) := hl
              have HM : Hid (l.length = m) := hm.symm
              have HROW : Hid (RowAt wr ai l) := hrow.below hB
              have g1 : (k : Int) < (t : Int) := by omega
              have g2 : (0 : Int) ≤ (k : Int) := by omega
              subst ha0 ha1
              clear hx hl hm hrow hc0 hc1 k0 k1
              go_wp2_with fail
              go_region_held3 (fun w' => w'.cell? ⟨b0, o0 + k, none⟩ = some (.int .u64 x) ∧ w'.cell? ⟨b1, o1 + k, none⟩ = some (.slice ai m ci)) (go_keep) ((go_at_call 12; refine (keep_any w.heap.size s x ai m ci l none (keptTo xs L k) _ HM.out (by omega) (by rw [keptTo_length]; omega) hwx (by exact HKS.out.same rfl) (by exact HROW.out)).mono ?_; rintro e w5 ⟨rfl, hks5, hk5, hb5⟩; have f0 := hk5.cell (a := ⟨b0, o0 + k, none⟩) hne0 e0; have f1 := hk5.cell (a := ⟨b1, o1 + k, none⟩) hne1 e1))
              go_wp2_with fail
              go_roundw
              case rel => exact ⟨k + 1, by omega, by go_num, by rw [keptTo, ← HX.out, ← HLl.out]; exact hks5, hB.drew.trans hb5⟩
              case measure => simp [intOf]; omega
            · have hge : k = t := by omega
              subst hge
              clear hlt hk
              have hmh := fun (q : IntKind) (n : Int) (w : World) => run_makeMap_hint Try.underlying39 q n w
              have hneq := fun (w : World) (a : Option Addr) (n c : Nat) => run_neq_slice_nil_any (P := Try.prog) w 33 22 a n c 0 0 Try.underlying33
              go_upto_if 150 with fail
              go_cut [15] (fun _ wx => (∃ r', KS w.heap.size wx s r' (keptTo xs L k)) ∧ Below w.heap.size w wx)
              case first =>
                cases a2 with
                | none =>
                  go_wp2
                  go_meet
                  case rel => exact ⟨⟨_, HKS.out⟩, hB⟩
                | some p2 =>
                  have HK1 : Hid (KS w.heap.size (wr.alloc (.map #[] 0)) s none (keptTo xs L k) ∧ (wr.alloc (.map #[] 0)).cell? ⟨s, 4870, none⟩ ≠ some (.map (some wr.heap.size))) := by
                    have h := HKS.out.grown (World.grownBy_alloc wr (.map #[] 0) none) (fun b e => by cases e) (fun b e => by cases e)
                    exact ⟨h.1, by rw [h.2]; exact HKS.out.fresh⟩
                  have HO1 : Hid ((wr.alloc (.map #[] 0)).ownsMap Try.prog 22 (plainElem (H := Unit) Try.prog 22) wr.heap.size 0 (.map [])) := World.ownsMap_made _ _ _ _
                  have HB1 : Hid (Below w.heap.size w (wr.alloc (.map #[] 0))) := hB.alloc hB.size _
                  obtain ⟨pm, hpm⟩ : ∃ pm, pm = wr.heap.size := ⟨_, rfl⟩
                  rw [← hpm] at HO1 HK1
                  have hpmb : w.heap.size ≤ pm := by rw [hpm]; exact hB.size
                  have HPM : Hid (pm = wr.heap.size) := hpm
                  clear hpm
                  go_wp2_with fail
                  rw [← HPM.out]
                  obtain ⟨V, hV⟩ : ∃ V, V = wr := ⟨_, rfl⟩
                  subst hV
                  go_loopw [16] (fun i wr => ∃ (j : Nat) (D : DataW Unit), j ≤ n2 ∧ i = .int .i64 j ∧ wr.ownsMap Try.prog 22 (plainElem Try.prog 22) pm j D ∧ KS w.heap.size wr s none (keptTo xs L k) ∧ Hid (wr.cell? ⟨s, 4870, none⟩ ≠ some (.map (some pm))) ∧ Below w.heap.size w wr) (fun i _ => n2 - (intOf i).toNat)
                  case atStart => exact ⟨0, _, Nat.zero_le _, rfl, HO1.out, HK1.out.1, HK1.out.2, HB1.out⟩
                  case round =>
                    obtain ⟨j, D, hj, rfl, hown, hks, HFR, hBr⟩ := hrel
                    have HOWN : Hid (wr.ownsMap Try.prog 22 (plainElem Try.prog 22) pm j D) := hown
                    have HKSr : Hid (KS w.heap.size wr s none (keptTo xs L k)) := hks
                    clear hown hks HK1 HO1 HB1
                    by_cases hlt : j < n2
                    · obtain ⟨b2, o2, ha2, hc2⟩ := HIN.out.r2 (by rw [HIN.out.l2]; omega)
                      obtain ⟨b3, o3, ha3, hc3⟩ := HIN.out.r3 (by rw [HIN.out.l3]; omega)
                      obtain ⟨x, hx⟩ : ∃ x, x = ps.getD j 0 := ⟨_, rfl⟩
                      obtain ⟨y2, hy⟩ : ∃ y, y = qs.getD j 0 := ⟨_, rfl⟩
                      have k2 := hc2 j (by rw [HIN.out.l2]; exact hlt)
                      have k3 := hc3 j (by rw [HIN.out.l3]; exact hlt)
                      rw [← hx] at k2
                      rw [← hy] at k3
                      have hwx : (Lit.int .u64 x).wf = true := by rw [hx]; exact HIN.out.w2 j hlt
                      have hwy : (Lit.int .u64 y2).wf = true := by rw [hy]; exact HIN.out.w3 j hlt
                      have e2 : wr.cell? ⟨b2, o2 + j, none⟩ = some (.int .u64 x) := (hBr.cell (p := ⟨b2, o2 + j, none⟩) (World.block_lt_of_cell? _ _ k2)).trans k2
                      have e3 : wr.cell? ⟨b3, o3 + j, none⟩ = some (.int .u64 y2) := (hBr.cell (p := ⟨b3, o3 + j, none⟩) (World.block_lt_of_cell? _ _ k3)).trans k3
                      obtain ⟨w2, hrun, hor2, hturn⟩ := World.ownsMap.store (w := wr.drew) (val := .int .u64 y2) HOWN.out.drew law22 Try.underlying39 (by unfold maxLen; omega) (Maps.keyOf_int_mk Try.underlying22 hwx) (plainElem_int Try.underlying22 hwy)
                      have hg2 : wr.grownBy w2 (some pm) := by have h := hturn.grown; exact ⟨h.os, h.tape, h.output, h.size, h.block⟩
                      have hnc2 : ∀ b', some pm = some b' → ∀ cs e fr, wr.heap[b']? ≠ some (.cells cs e fr) := fun b' e => by cases e; exact map_not_cells HOWN.out
                      have HK2 : Hid (KS w.heap.size w2 s none (keptTo xs L k) ∧ w2.cell? ⟨s, 4870, none⟩ ≠ some (.map (some pm))) := by
                        have h := HKSr.out.grown hg2 hnc2 (fun b e => by cases e; exact HFR.out)
                        exact ⟨h.1, by rw [h.2]; exact HFR.out⟩
                      have HB2 : Hid (Below w.heap.size w w2) := hBr.grown hg2 hBr.size (fun k e => by cases e; exact hpmb)
                      have HO2 : Hid (w2.ownsMap Try.prog 22 (plainElem (H := Unit) Try.prog 22) pm (j + 1) (D.put (.int .u64 x) (.lit (.int .u64 y2)))) := hor2
                      have f2 : w2.cell? ⟨b2, o2 + j, none⟩ = some (.int .u64 x) := (HB2.out.cell (p := ⟨b2, o2 + j, none⟩) (World.block_lt_of_cell? _ _ k2)).trans k2
                      have f3 : w2.cell? ⟨b3, o3 + j, none⟩ = some (.int .u64 y2) := (HB2.out.cell (p := ⟨b3, o3 + j, none⟩) (World.block_lt_of_cell? _ _ k3)).trans k3
                      have g1 : (j : Int) < (n2 : Int) := by omega
                      have g2 : (0 : Int) ≤ (j : Int) := by omega
                      obtain rfl : p2 = ⟨b2, o2, none⟩ := by simpa using ha2
                      subst ha3
                      clear ha2 hx hy hc2 hc3 k2 k3 hor2 hturn hg2 hnc2
                      go_wp2_with fail
                      go_region_held3 (fun w' => w'.cell? ⟨b2, o2 + j, none⟩ = some (.int .u64 x) ∧ w'.cell? ⟨b3, o3 + j, none⟩ = some (.int .u64 y2)) (go_keep) (fail)
                      go_wp2_with fail
                      go_roundw
                      case rel => ((repeat apply Exists.intro); exact ⟨⟨j + 1, _, by omega, by go_num, HO2.out, HK2.out.1, HK2.out.2, HB2.out⟩, rfl⟩)
                      case measure => simp [intOf]; omega
                    · have hge : ¬ ((j : Int) < (n2 : Int)) := by omega
                      go_wp2_with fail
                      refine (setRefilled_any (some pm) _ HKSr.out).mono ?_
                      rintro e w5 ⟨rfl, hks5, hg5⟩
                      go_wp2_with fail
                      go_meet
                      case rel => exact ⟨⟨_, hks5⟩, hBr.grown hg5 hBr.size (fun k e => by cases e; exact hsb)⟩
              case rest =>
                obtain ⟨⟨r', hks⟩, hBc⟩ := hcut
                have qT : ∀ (w : World) (r : Option Nat), (binOp .eql 39 (.map r) (.map none)).run Try.prog w = .ok (.bool r.isNone) w := fun w r => run_eql_map_nil w _ _ _ r Try.underlying39
                have hmh2 := fun (q : IntKind) (n : Int) (w : World) => run_makeMap_hint Try.underlying42 q n w
                have HKC : Hid (KS w.heap.size wc s r' (keptTo xs L k)) := hks
                clear hks hmh hneq HKS HB3 HKS3 hB
                go_wp2_with fail
                refine (filled_any w.heap.size s r' (keptTo xs L k) _ (by rw [keptTo_length]; omega) HKC.out).mono ?_
                rintro e w6 ⟨rfl, rb, Dr, hks6, hor6, href6, _, hk6, hb6⟩
                have HKS6 : Hid (KS w.heap.size w6 s (some rb) (keptTo xs L k)) := hks6
                have HOR6 : Hid (w6.ownsMap Try.prog 22 (plainElem Try.prog 22) rb (keptTo xs L k).length Dr) := hor6
                have HRF : Hid (RefPart Dr (fun _ => false) (keptTo xs L k)) := href6
                have hB6 : Below w.heap.size w w6 := hBc.trans hb6
                clear hks6 hor6 href6 hk6 hb6 hBc
                go_wp2_with fail
                refine (refilled_any _ HKS6.out).mono ?_
                rintro e w' ⟨rfl, hw⟩
                subst w'
                have HOL : Hid ((w6.alloc (.map #[] 0)).ownsMap Try.prog 22 (plainElem (H := Unit) Try.prog 3) w6.heap.size 0 (.map [])) := World.ownsMap_made _ _ _ _
                obtain ⟨lb, hlb⟩ : ∃ lb, lb = w6.heap.size := ⟨_, rfl⟩
                have HLB : Hid (lb = w6.heap.size) := hlb
                have hlr : rb < lb := by rw [hlb]; exact HOR6.out.lt
                have hlw : w.heap.size ≤ lb := by rw [hlb]; exact hB6.size
                rw [← hlb] at HOL
                have HOR7 : Hid ((w6.alloc (.map #[] 0)).ownsMap Try.prog 22 (plainElem Try.prog 22) rb (keptTo xs L k).length Dr) := HOR6.out.alloc _
                have HB7 : Hid (Below w.heap.size w (w6.alloc (.map #[] 0))) := hB6.alloc hB6.size _
                clear hlb
                go_wp2_with fail
                rw [← HLB.out]
                go_loopw [19] (fun i wr => ∃ (j : Nat) (D : DataW Unit), j ≤ k ∧ i = .int .i64 j ∧ wr.ownsMap Try.prog 22 (plainElem Try.prog 3) lb j D ∧ LastMap xs D j ∧ wr.ownsMap Try.prog 22 (plainElem Try.prog 22) rb (keptTo xs L k).length Dr ∧ Below w.heap.size w wr) (fun i _ => k - (intOf i).toNat)
                case atStart => exact ⟨0, _, Nat.zero_le _, rfl, HOL.out, lastMap_start _ _, HOR7.out, HB7.out⟩
                case round =>
                  obtain ⟨j, D, hj, rfl, hown, hlm, horr, hBr⟩ := hrel
                  have HOWN : Hid (wr.ownsMap Try.prog 22 (plainElem Try.prog 3) lb j D) := hown
                  have HLM : Hid (LastMap xs D j) := hlm
                  have HORR : Hid (wr.ownsMap Try.prog 22 (plainElem Try.prog 22) rb (keptTo xs L k).length Dr) := horr
                  clear hown hlm horr HOL HOR7 HB7 HKS6 HOR6 HKC
                  by_cases hlt : j < k
                  · obtain ⟨b0, o0, ha0, hc0⟩ := HIN.out.r0 (by rw [HIN.out.l0]; omega)
                    obtain ⟨x, hx⟩ : ∃ x, x = xs.getD j 0 := ⟨_, rfl⟩
                    have k0 := hc0 j (by rw [HIN.out.l0]; exact hlt)
                    have hwx : (Lit.int .u64 x).wf = true := by rw [hx]; exact HIN.out.w0 j hlt
                    rw [← hx] at k0
                    have e0 : wr.cell? ⟨b0, o0 + j, none⟩ = some (.int .u64 x) := (hBr.cell (p := ⟨b0, o0 + j, none⟩) (World.block_lt_of_cell? _ _ k0)).trans k0
                    have HX : Hid (x = xs.getD j 0) := hx
                    subst ha0
                    clear hx hc0 k0
                    go_wp2_with (at_mapUpdate; refine wpList_mapUpdate_own _ rfl _ _ _ 42 rfl 22 3 law22 Try.underlying42 (plainElem Try.prog 3) lb j D rfl HOWN.out (by unfold maxLen; omega) _ _ (.int .u64 x) rfl rfl (Maps.keyOf_int_mk Try.underlying22 hwx) _ [] (plainElem_int Try.underlying3 (WalkArith.wf_i64 (by omega))) ?_; intro w8 hown8 hgrow8)
                    have HO8 : Hid (w8.ownsMap Try.prog 22 (plainElem (H := Unit) Try.prog 3) lb (j + 1) (D.put (.int .u64 x) (.lit (.int .i64 j)))) := hown8
                    have HR8 : Hid (w8.ownsMap Try.prog 22 (plainElem Try.prog 22) rb (keptTo xs L k).length Dr) := HORR.out.kept hgrow8 (fun e => by cases e; omega)
                    have HB8 : Hid (Below w.heap.size w w8) := hBr.grown hgrow8 hBr.size (fun k e => by cases e; exact hlw)
                    clear hown8 hgrow8
                    go_wp2_with fail
                    go_roundw
                    case rel => exact ⟨j + 1, _, by omega, by go_num, HO8.out, by have := lastMap_step HLM.out HOWN.out.isMap; rw [← HX.out] at this; exact this, HR8.out, HB8.out⟩
                    case measure => simp [intOf]; omega
                  · have hge : j = k := by omega
                    subst hge
                    clear hlt hj
                    go_wp2_with fail
                    go_loop [20, 21] (fun c i => ∃ t : Nat, t ≤ j ∧ i = .int .i64 t ∧ c = .int .i64 (selTo xs L j t : Nat)) (fun _ i => j - (intOf i).toNat)
                    case atStart => exact ⟨0, Nat.zero_le _, rfl, rfl⟩
                    case round =>
                      obtain ⟨t, ht, rfl, rfl⟩ := hrel
                      have hsl := selTo_le xs L j t
                      by_cases hlt : t < j
                      · obtain ⟨b0, o0, ha0, hc0⟩ := HIN.out.r0 (by rw [HIN.out.l0]; omega)
                        obtain ⟨b1, o1, ha1, hc1⟩ := HIN.out.r1 (by rw [HIN.out.l1]; omega)
                        obtain ⟨x, hx⟩ : ∃ x, x = xs.getD t 0 := ⟨_, rfl⟩
                        have k0 := hc0 t (by rw [HIN.out.l0]; exact hlt)
                        obtain ⟨ai, ci, k1, hrow⟩ := hc1 t (by rw [HIN.out.l1]; exact hlt)
                        obtain ⟨l, hl⟩ : ∃ l, l = L.getD t [] := ⟨_, rfl⟩
                        rw [← hl] at k1 hrow
                        obtain ⟨m, hm⟩ : ∃ m, m = l.length := ⟨_, rfl⟩
                        rw [← hm] at k1
                        have hmb : m ≤ 131072 := by rw [hm, hl]; exact HALL.out t hlt
                        have hwx : (Lit.int .u64 x).wf = true := by rw [hx]; exact HIN.out.w0 t hlt
                        rw [← hx] at k0
                        have e0 : wr.cell? ⟨b0, o0 + t, none⟩ = some (.int .u64 x) := (hBr.cell (p := ⟨b0, o0 + t, none⟩) (World.block_lt_of_cell? _ _ k0)).trans k0
                        have e1 : wr.cell? ⟨b1, o1 + t, none⟩ = some (.slice ai m ci) := (hBr.cell (p := ⟨b1, o1 + t, none⟩) (World.block_lt_of_cell? _ _ k1)).trans k1
                        obtain ⟨j', hj'⟩ := lastIdx_mem xs j t hlt
                        have HJ : Hid (lastIdx xs j (xs.getD t 0) = some j') := hj'
                        have HX : Hid (x = xs.getD t 0) := hx
                        have HLl : Hid (l = L.getD t []) := hl
                        have HM : Hid (m = l.length) := hm
                        have HROW : Hid (RowAt wr ai l) := hrow.below hBr
                        obtain ⟨c0', hc0'⟩ : ∃ c : Nat, c = selTo xs L j t := ⟨_, rfl⟩
                        rw [← hc0'] at hsl ⊢
                        have HC : Hid (c0' = selTo xs L j t) := hc0'
                        subst ha0 ha1
                        clear hx hl hm hrow hc0 hc1 k0 k1 hj' hc0'
                        by_cases hjt : j' = t
                        · subst hjt
                          have HLO : Hid (lastOf (keptTo xs L j) x = some l) := by
                            show lastOf _ _ = _
                            rw [lastOf_keptTo, HX.out, HJ.out, HLl.out]; rfl
                          by_cases hm0 : 0 < m
                          · obtain ⟨b2, o2, hai, hc2⟩ := HROW.out (by rw [← HM.out]; exact hm0)
                            have HC2 : Hid (∀ i, i < l.length → wr.cell? ⟨b2, o2 + i, none⟩ = some (.int .u64 (l.getD i 0))) := hc2
                            obtain ⟨v0, hv0⟩ : ∃ v, v = l.getD 0 0 := ⟨_, rfl⟩
                            have e20 : wr.cell? ⟨b2, o2, none⟩ = some (.int .u64 v0) := by rw [hv0]; exact hc2 0 (by rw [← HM.out]; exact hm0)
                            have HV0 : Hid (v0 = l.getD 0 0) := hv0
                            have HASCl : Hid (Asc l) := by show Asc l; rw [HLl.out]; exact HASC.out j' hlt
                            have HLast : Hid (IntKind.u64.wrap (nextOf l - 1) = l.getD (m - 1) 0) := by
                              have hw := bounds_u64 (HIN.out.w1 j' (m - 1) hlt (by rw [← HLl.out, ← HM.out]; omega))
                              rw [← HLl.out] at hw
                              show IntKind.u64.wrap (nextOf l - 1) = _
                              unfold nextOf
                              rw [← HM.out]
                              exact next_pred _ hw.1 (by omega)
                            obtain ⟨R, hR⟩ : ∃ R, R = nextOf l := ⟨_, rfl⟩
                            rw [← hR] at HLast
                            have HRR : Hid (R = nextOf l) := hR
                            have hm1 : ¬ ((m : Int) = 0) := by omega
                            subst hai
                            clear hc2 hv0 hR
                            go_wp2_with (first
                              | (refine wpList_lookup_last rfl _ _ rfl lb j D xs j j' j' x rfl rfl HX.out HOWN.out hwx HLM.out HJ.out ?_)
                              | (refine wpList_lookup_got rfl _ _ rfl rb _ Dr (keptTo xs L j) x l rfl rfl HORR.out hwx HRF.out HLO.out (by rw [← HM.out]; exact hm0) ?_; rw [← HRR.out]))
                            go_loop [24, 25] (fun g i => ∃ (q : Nat) (v : Int), q < m ∧ i = .int .i64 ((q : Int) + 1) ∧ g = .int .u64 v ∧ Hid (v = l.getD q 0)) (fun _ i => m - (intOf i).toNat)
                            case atStart => exact ⟨0, _, hm0, by simp, rfl, HV0.out⟩
                            case round =>
                              obtain ⟨q, v, hqm, rfl, rfl, HV⟩ := hrel
                              by_cases hq : q + 1 < m
                              · obtain ⟨v2, hv2⟩ : ∃ v, v = l.getD (q + 1) 0 := ⟨_, rfl⟩
                                have e22 : wr.cell? ⟨b2, o2 + (q + 1), none⟩ = some (.int .u64 v2) := by rw [hv2]; exact HC2.out (q + 1) (by rw [← HM.out]; exact hq)
                                have hup : v < v2 := by rw [HV.out, hv2]; exact HASCl.out q (by rw [← HM.out]; exact hq)
                                have HV2 : Hid (v2 = l.getD (q + 1) 0) := hv2
                                have g1 : (q : Int) + 1 < (m : Int) := by omega
                                clear hv2
                                go_wp2_with fail
                                go_round
                                case rel => exact ⟨q + 1, _, hq, by go_num, rfl, HV2.out⟩
                                case measure => simp [intOf]; omega
                              · have g1 : ¬ ((q : Int) + 1 < (m : Int)) := by omega
                                have hfin : (IntKind.u64.wrap (R - 1) != v) = false := by
                                  rw [HLast.out, HV.out, show m - 1 = q by omega]; simp
                                go_wp2_with fail
                                go_round
                                case rel => exact ⟨j' + 1, by omega, by go_num, by rw [HC.out, selTo_yes HJ.out (by rw [← HLl.out, ← HM.out]; exact hm0)]; simp⟩
                                case measure => simp [intOf]; omega
                          · have hm00 : m = 0 := by omega
                            subst hm00
                            go_wp2_with (first
                              | (refine wpList_lookup_last rfl _ _ rfl lb j D xs j j' j' x rfl rfl HX.out HOWN.out hwx HLM.out HJ.out ?_)
                              | (refine wpList_lookup_none rfl _ _ rfl rb _ Dr (keptTo xs L j) x l rfl rfl HORR.out hwx HRF.out HLO.out HM.out.symm ?_; intro c9))
                            go_round
                            case rel => exact ⟨j' + 1, by omega, by go_num, by rw [HC.out, selTo_no (.inr (by rw [← HLl.out, ← HM.out]))]⟩
                            case measure => simp [intOf]; omega
                        · have hne : ((j' : Int) != (t : Int)) = true := by simp; omega
                          go_wp2_with (refine wpList_lookup_last rfl _ _ rfl lb j D xs j t j' x rfl rfl HX.out HOWN.out hwx HLM.out HJ.out ?_)
                          go_round
                          case rel => exact ⟨t + 1, by omega, by go_num, by rw [HC.out, selTo_no (.inl (by rw [HJ.out]; simpa using hjt))]⟩
                          case measure => simp [intOf]; omega
                      · have hge : t = j := by omega
                        subst hge
                        have hsz : Maps.size Dr = selTo xs L t t := size_ref (HORR.out.canon law22) HRF.out HIN.out.w0
                        have hsz2 : ((Maps.size Dr : Int) == (selTo xs L t t : Int)) = true := by rw [hsz]; simp
                        clear hsz
                        go_wp2_with (at_len; refine wpList_len_own _ rfl _ 39 rfl 22 22 Try.underlying39 (plainElem Try.prog 22) rb _ Dr rfl HORR.out ?_)
                        go_ret
                        exact ⟨rfl, hBr⟩
end Go.Proofs.Qxb6616935a
