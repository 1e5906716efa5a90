/-
  zzConnect: Limits to ConnectLimits: the networks and the types are the same slices; the times are copied.
-/
import Derived.Test.Qxb6618931aLims
namespace Go.Proofs.Qxb6618931a
open Go.RowKit
set_option linter.unusedVariables false

/-- A row of N cells that may be written. -/
structure Free (w : World) (B N : Nat) : Prop where
  cell : ∀ j, j < N → ∃ v, w.cell? ⟨B, j, none⟩ = some v
  free : ∀ j, w.frozen? ⟨B, j, none⟩ = false
theorem free_alloc (w : World) (C : Array Value) (t : TypeId) (N : Nat) (hN : C.size = N) : Free (w.alloc (.cells C t)) w.heap.size N := by
  refine ⟨fun j hj => ?_, fun j => ?_⟩
  · rw [World.cell?_alloc_mark w C t _ j]
    exact ⟨_, Array.getElem?_eq_getElem (by omega)⟩
  · simp [go_sem]
theorem Free.setCell {w : World} {B N : Nat} (h : Free w B N) (a : Addr) (v : Value) : Free (w.setCell a v) B N := by
  refine ⟨fun j hj => ?_, fun j => by rw [World.frozen?_setCell]; exact h.free j⟩
  obtain ⟨u, hu⟩ := h.cell j hj
  by_cases e : a = ⟨B, j, none⟩
  · subst e; exact ⟨v, World.cell?_setCell_same _ _ v hu⟩
  · exact ⟨u, (World.cell?_setCell_other _ _ _ _ e).trans hu⟩
theorem Free.drew {w : World} {B N : Nat} (h : Free w B N) : Free w.drew B N := ⟨h.cell, h.free⟩
theorem Free.below {w w' : World} {M B N : Nat} (hb : Below M w w') (hB : B < M) (h : Free w B N) : Free w' B N :=
  ⟨fun j hj => by obtain ⟨v, hv⟩ := h.cell j hj; exact ⟨v, (hb.cell (p := ⟨B, j, none⟩) hB).trans hv⟩, fun j => (hb.frozen (p := ⟨B, j, none⟩) hB).trans (h.free j)⟩

theorem cell_two (w : World) (B i j : Nat) (v u : Value) {a : Addr} (h : a.block ≠ B) : ((w.setCell ⟨B, i, none⟩ v).setCell ⟨B, j, none⟩ u).cell? a = w.cell? a := by
  rw [World.cell?_setCell_other _ _ _ _ (fun e => h (by rw [← e])), World.cell?_setCell_other _ _ _ _ (fun e => h (by rw [← e]))]
theorem cell_two_at {w : World} {B i j : Nat} {v u : Value} {k : Nat} {x : Value} (hx : w.cell? ⟨B, k, none⟩ = some x) (h1 : k ≠ i) (h2 : k ≠ j) : ((w.setCell ⟨B, i, none⟩ v).setCell ⟨B, j, none⟩ u).cell? ⟨B, k, none⟩ = some x := by
  rw [World.cell?_setCell_other _ _ _ _ (fun e => h2 (by injection e with _ e _; exact e.symm)), World.cell?_setCell_other _ _ _ _ (fun e => h1 (by injection e with _ e _; exact e.symm))]
  exact hx
theorem cell_two_fst {w : World} {B i j : Nat} {v u : Value} {x : Value} (hx : w.cell? ⟨B, i, none⟩ = some x) (h : i ≠ j) : ((w.setCell ⟨B, i, none⟩ v).setCell ⟨B, j, none⟩ u).cell? ⟨B, i, none⟩ = some v := by
  rw [World.cell?_setCell_other _ _ _ _ (fun e => h (by injection e with _ e _; exact e.symm))]
  exact World.cell?_setCell_same _ _ v hx
theorem cell_two_snd {w : World} {B i j : Nat} {v u : Value} {y : Value} (hy : w.cell? ⟨B, j, none⟩ = some y) (h : i ≠ j) : ((w.setCell ⟨B, i, none⟩ v).setCell ⟨B, j, none⟩ u).cell? ⟨B, j, none⟩ = some u :=
  World.cell?_setCell_same _ _ u ((World.cell?_setCell_other _ _ _ _ (fun e => h (by injection e with _ e _))).trans hy)
theorem LimAt.two {w : World} {b off : Nat} {l : Lim} (h : LimAt w b off l) {B : Nat} (hne : b ≠ B) (i j : Nat) (v u : Value) : LimAt ((w.setCell ⟨B, i, none⟩ v).setCell ⟨B, j, none⟩ u) b off l :=
  ⟨(cell_two w B i j v u hne).trans h.c0, (cell_two w B i j v u hne).trans h.c1, (cell_two w B i j v u hne).trans h.c2, (cell_two w B i j v u hne).trans h.c3, (cell_two w B i j v u hne).trans h.c4⟩

theorem LimAt.drew {w : World} {b off : Nat} {l : Lim} (h : LimAt w b off l) : LimAt w.drew b off l := ⟨h.c0, h.c1, h.c2, h.c3, h.c4⟩
/-- Six cells of one block written: the world behind. -/
theorem cell_six (w : World) (B i0 i1 i2 i3 i4 i5 : Nat) (v0 v1 v2 v3 v4 v5 : Value) {a : Addr} (h : a.block ≠ B) :
    ((((((w.setCell ⟨B, i0, none⟩ v0).setCell ⟨B, i1, none⟩ v1).setCell ⟨B, i2, none⟩ v2).setCell ⟨B, i3, none⟩ v3).setCell ⟨B, i4, none⟩ v4).setCell ⟨B, i5, none⟩ v5).cell? a = w.cell? a := by
  rw [cell_two _ B i4 i5 v4 v5 h, cell_two _ B i2 i3 v2 v3 h, cell_two _ B i0 i1 v0 v1 h]
theorem below_six {M : Nat} {W w : World} (hB : Below M W w) (B i0 i1 i2 i3 i4 i5 : Nat) (v0 v1 v2 v3 v4 v5 : Value) (h : M ≤ B) :
    Below M W ((((((w.setCell ⟨B, i0, none⟩ v0).setCell ⟨B, i1, none⟩ v1).setCell ⟨B, i2, none⟩ v2).setCell ⟨B, i3, none⟩ v3).setCell ⟨B, i4, none⟩ v4).setCell ⟨B, i5, none⟩ v5) :=
  (((((hB.setCell (p := ⟨B, i0, none⟩) h v0).setCell (p := ⟨B, i1, none⟩) h v1).setCell (p := ⟨B, i2, none⟩) h v2).setCell (p := ⟨B, i3, none⟩) h v3).setCell (p := ⟨B, i4, none⟩) h v4).setCell (p := ⟨B, i5, none⟩) h v5

/-- Three rows laid one behind the other. -/
theorem laid3 (w : World) (A1 A2 A3 : Array Value) (t1 t2 t3 : TypeId) : ∃ W, W = ((w.alloc (.cells A1 t1)).alloc (.cells A2 t2)).alloc (.cells A3 t3) ∧ Below w.heap.size w W ∧ Free W (w.heap.size + 1) A2.size ∧ Free W (w.heap.size + 1 + 1) A3.size ∧ ∀ j, W.cell? ⟨w.heap.size, j, none⟩ = A1[j]? := by
  have s1 : (w.alloc (.cells A1 t1)).heap.size = w.heap.size + 1 := by simp
  have s2 : ((w.alloc (.cells A1 t1)).alloc (.cells A2 t2)).heap.size = w.heap.size + 1 + 1 := by simp
  have b1 := (Below.refl w.heap.size w).alloc (Nat.le_refl _) (.cells A1 t1)
  have b2 := b1.alloc (by omega) (.cells A2 t2)
  have b3 := b2.alloc (by omega) (.cells A3 t3)
  have f2 := free_alloc (w.alloc (.cells A1 t1)) A2 t2 _ rfl
  have f3 := free_alloc ((w.alloc (.cells A1 t1)).alloc (.cells A2 t2)) A3 t3 _ rfl
  rw [s1] at f2
  rw [s2] at f3
  refine ⟨_, rfl, b3, Free.below ((Below.refl (w.heap.size + 1 + 1) _).alloc (by omega) _) (by omega) f2, f3, fun j => ?_⟩
  rw [World.cell?_alloc_lt _ _ _ (by show w.heap.size < _; omega), World.cell?_alloc_lt _ _ _ (by show w.heap.size < _; omega)]
  exact World.cell?_alloc_mark w A1 t1 _ j

theorem info80 : (Try.prog.info? 80).map (fun i => (i.zero, i.size, i.bytes)) = some (some (.agg #[.string ByteArray.empty, .string ByteArray.empty]), 2, 32) := by kernel_rfl
theorem make38 (n : Nat) (h : n ≤ 1048576) (w : World) : (Instr.makeSlice 38 (.int .i64 n) (.int .i64 n)).run Try.prog w = .ok (.slice (some ⟨w.heap.size, 0, none⟩) n n) (w.alloc (.cells (madeCells #[.string ByteArray.empty, .string ByteArray.empty] (n * 2)) 80)) := by
  have hi := info80
  cases hx : Try.prog.info? 80 with
  | none => rw [hx] at hi; simp at hi
  | some i =>
    rw [hx] at hi
    simp at hi
    obtain ⟨h1, h2, h3⟩ := hi
    have r := run_makeSlice (P := Try.prog) w 38 80 i _ Try.underlying38 hx h1 .i64 .i64 n n (by omega) (Int.le_refl _) (by rw [h2]; simp; omega) (by rw [h3]; omega) (by omega)
    rw [h2] at r
    simpa [Value.cells] using r

/-- The value of a ConnectLimits made of l. -/
def ConnVal (w : World) (v : Value) (l : Lim) : Prop :=
  ∃ a' c', v = .agg #[.slice l.a1 l.n1 l.c1, .bool false, .slice a' l.n2 c', .string l.loc, .slice l.a3 l.n3 l.c3, .bool l.bt] ∧ a'.isNone = l.a2.isNone ∧ Spans w a' l.n2 l.T
theorem ConnVal.below {w w' : World} {v : Value} {l : Lim} (hb : Below w.heap.size w w') (h : ConnVal w v l) : ConnVal w' v l := by
  obtain ⟨a', c', h1, h2, h3⟩ := h
  exact ⟨a', c', h1, h2, h3.below hb⟩

/-- zzConnect's answer: the times lie in memory of its own. -/
def ConnRet (M : Nat) (l : Lim) (e : Ending) (w' : World) : Prop :=
  ∃ a' c', e = .returned (.agg #[.slice l.a1 l.n1 l.c1, .bool false, .slice a' l.n2 c', .string l.loc, .slice l.a3 l.n3 l.c3, .bool l.bt]) ∧ a'.isNone = l.a2.isNone ∧ Spans w' a' l.n2 l.T ∧ ∀ ad, a' = some ad → M ≤ ad.block

set_option maxRecDepth 100000 in
set_option maxHeartbeats 1600000 in
theorem connect_any (l : Lim) (w : World) (h : LimOK w l) (hm : l.n2 ≤ 1048576) :
    Calls Try.prog 17 #[.agg #[.slice l.a1 l.n1 l.c1, .slice l.a2 l.n2 l.c2, .string l.loc, .slice l.a3 l.n3 l.c3, .bool l.bt]] w fun e w' => ConnRet w.heap.size l e w' ∧ Below w.heap.size w w' := by
  obtain ⟨a1, n1, c1, a2, n2, c2, T, loc, a3, n3, c3, bt⟩ := l
  have H : Hid (LimOK w ⟨a1, n1, c1, a2, n2, c2, T, loc, a3, n3, c3, bt⟩) := h
  clear h
  cases a2 with
  | none =>
    have hz : n2 = 0 := by
      by_cases e : 0 < n2
      · obtain ⟨_, _, h, _⟩ := H.out.r2 e
        cases h
      · omega
    subst hz
    have qn := fun (w : World) (a : Option Addr) (n c : Nat) => run_neq_slice_nil_any (P := Try.prog) w 23 47 a n c 0 0 Try.underlying23
    go_enter Try.func17, Try.ntmps17
    go_wp2_with fail
    exact bodyPost_ret (v := .agg #[.slice a1 n1 c1, .bool false, .slice none 0 0, .string loc, .slice a3 n3 c3, .bool bt]) (by simp [results, Try.results17, go_sem]) rfl ⟨⟨none, 0, rfl, rfl, fun h => absurd h (by simp), fun _ h => by cases h⟩, ((Below.refl _ _).alloc (Nat.le_refl _) _).alloc (by simp) _⟩
  | some ad =>
    have qn := fun (w : World) (a : Option Addr) (n c : Nat) => run_neq_slice_nil_any (P := Try.prog) w 23 47 a n c 0 0 Try.underlying23
    have hmk := make38 n2 hm
    obtain ⟨W3, hW3, hB3, hf1, hf2, hl3⟩ := laid3 w #[.slice a1 n1 c1, .slice (some ad) n2 c2, .string loc, .slice a3 n3 c3, .bool bt] #[.slice none 0 0, .bool false, .slice none 0 0, .string { data := #[] }, .slice none 0 0, .bool false] (madeCells #[.string ByteArray.empty, .string ByteArray.empty] (n2 * 2)) 25 40 80
    have HB3 : Hid (Below w.heap.size w W3) := hB3
    have HL3 : Hid (LimAt W3 w.heap.size 0 ⟨a1, n1, c1, some ad, n2, c2, T, loc, a3, n3, c3, bt⟩) := ⟨hl3 0, hl3 1, hl3 2, hl3 3, hl3 4⟩
    have HF3 : Hid (Free W3 (w.heap.size + 1) 6 ∧ Free W3 (w.heap.size + 1 + 1) (n2 * 2)) := ⟨hf1, by rw [size_madeCells] at hf2; exact hf2⟩
    clear hB3 hf1 hf2 hl3
    have HW3 : Hid (W3 = ((w.alloc (.cells #[.slice a1 n1 c1, .slice (some ad) n2 c2, .string loc, .slice a3 n3 c3, .bool bt] 25)).alloc (.cells #[.slice none 0 0, .bool false, .slice none 0 0, .string { data := #[] }, .slice none 0 0, .bool false] 40)).alloc (.cells (madeCells #[.string ByteArray.empty, .string ByteArray.empty] (n2 * 2)) 80)) := hW3
    clear hW3
    go_enter Try.func17, Try.ntmps17
    go_wp2_with fail
    rw [← HW3.out]
    clear HW3
    obtain ⟨B0, hB0⟩ : ∃ B0, B0 = w.heap.size := ⟨_, rfl⟩
    obtain ⟨B1, hB1⟩ : ∃ B1, B1 = w.heap.size + 1 := ⟨_, rfl⟩
    obtain ⟨B2, hB2⟩ : ∃ B2, B2 = w.heap.size + 1 + 1 := ⟨_, rfl⟩
    rw [← hB2] at HF3
    rw [← hB1] at HF3
    rw [← hB0] at HL3
    rw [← hB2, ← hB1, ← hB0]
    have hb01 : B0 ≠ B1 := by omega
    have hb02 : B0 ≠ B2 := by omega
    have hb12 : B1 ≠ B2 := by omega
    have hle0 : w.heap.size ≤ B0 := by omega
    have hle1 : w.heap.size ≤ B1 := by omega
    have hle2 : w.heap.size ≤ B2 := by omega
    clear hB0 hB1 hB2 hmk
    go_loopw [4] (fun i wr => ∃ k : Nat, k ≤ n2 ∧ i = .int .i64 k ∧ LimAt wr B0 0 ⟨a1, n1, c1, some ad, n2, c2, T, loc, a3, n3, c3, bt⟩ ∧ Free wr B1 6 ∧ Free wr B2 (n2 * 2) ∧ (∀ j, j < k → wr.cell? ⟨B2, j * 2, none⟩ = some (.string (T j).1) ∧ wr.cell? ⟨B2, j * 2 + 1, none⟩ = some (.string (T j).2)) ∧ Below w.heap.size w wr) (fun i _ => n2 - (intOf i).toNat)
    case atStart => exact ⟨0, Nat.zero_le _, rfl, HL3.out, HF3.out.1, HF3.out.2, fun j hj => absurd hj (by omega), HB3.out⟩
    case round =>
      clear HL3 HF3 HB3
      obtain ⟨k, hk, rfl, hat, hf1, hf2, hdone, hB⟩ := hrel
      have HAT : Hid (LimAt wr B0 0 ⟨a1, n1, c1, some ad, n2, c2, T, loc, a3, n3, c3, bt⟩) := hat
      have HF1 : Hid (Free wr B1 6) := hf1
      have HF2 : Hid (Free wr B2 (n2 * 2)) := hf2
      have HD : Hid (∀ j, j < k → wr.cell? ⟨B2, j * 2, none⟩ = some (.string (T j).1) ∧ wr.cell? ⟨B2, j * 2 + 1, none⟩ = some (.string (T j).2)) := hdone
      have e1 : wr.cell? ⟨B0, 1, none⟩ = some (.slice (some ad) n2 c2) := hat.c1
      by_cases hlt : k < n2
      · obtain ⟨b0, o0, ha, hc⟩ := H.out.r2 (by exact Nat.lt_of_le_of_lt (Nat.zero_le _) hlt)
        obtain ⟨k0, k1⟩ := hc k hlt
        obtain ⟨s0, hs0⟩ : ∃ s, s = (T k).1 := ⟨_, rfl⟩
        obtain ⟨s1, hs1⟩ : ∃ s, s = (T k).2 := ⟨_, rfl⟩
        replace k0 : w.cell? ⟨b0, o0 + k * 2, none⟩ = some (.string s0) := by rw [hs0]; exact k0
        replace k1 : w.cell? ⟨b0, o0 + k * 2 + 1, none⟩ = some (.string s1) := by rw [hs1]; exact k1
        have f0 : wr.cell? ⟨b0, o0 + k * 2, none⟩ = some (.string s0) := (hB.cell (p := ⟨b0, o0 + k * 2, none⟩) (World.block_lt_of_cell? _ _ k0)).trans k0
        have f1 : wr.cell? ⟨b0, o0 + k * 2 + 1, none⟩ = some (.string s1) := (hB.cell (p := ⟨b0, o0 + k * 2 + 1, none⟩) (World.block_lt_of_cell? _ _ k1)).trans k1
        have hbb : b0 ≠ B2 := by have := World.block_lt_of_cell? _ _ k0; simp at this; omega
        obtain ⟨v0, hv0⟩ := hf2.cell (k * 2) (by omega)
        obtain ⟨v1, hv1⟩ := hf2.cell (k * 2 + 1) (by omega)
        have z0 : wr.frozen? ⟨B2, k * 2, none⟩ = false := hf2.free _
        have z1 : wr.frozen? ⟨B2, k * 2 + 1, none⟩ = false := hf2.free _
        have g1 : (k : Int) < (n2 : Int) := by omega
        have HS0 : Hid (s0 = (T k).1) := hs0
        have HS1 : Hid (s1 = (T k).2) := hs1
        simp only [Option.some.injEq] at ha
        subst ha
        clear hc k0 k1 hs0 hs1 hat hf1 hf2 hdone
        go_wp2_with fail
        have x0 : ((wr.setCell ⟨B2, k * 2, none⟩ (.string s0)).setCell ⟨B2, k * 2 + 1, none⟩ (.string s1)).drew.cell? ⟨B0, 1, none⟩ = some (.slice (some ⟨b0, o0, none⟩) n2 c2) := (cell_two wr B2 _ _ _ _ hb02).trans e1
        have x1 : ((wr.setCell ⟨B2, k * 2, none⟩ (.string s0)).setCell ⟨B2, k * 2 + 1, none⟩ (.string s1)).drew.cell? ⟨b0, o0 + k * 2, none⟩ = some (.string s0) := (cell_two wr B2 _ _ _ _ hbb).trans f0
        have x2 : ((wr.setCell ⟨B2, k * 2, none⟩ (.string s0)).setCell ⟨B2, k * 2 + 1, none⟩ (.string s1)).drew.cell? ⟨b0, o0 + k * 2 + 1, none⟩ = some (.string s1) := (cell_two wr B2 _ _ _ _ hbb).trans f1
        go_region_held3 (fun w' => w'.cell? ⟨B0, 1, none⟩ = some (.slice (some ⟨b0, o0, none⟩) n2 c2) ∧ w'.cell? ⟨b0, o0 + k * 2, none⟩ = some (.string s0) ∧ w'.cell? ⟨b0, o0 + k * 2 + 1, none⟩ = some (.string s1)) (go_keep) (fail)
        go_wp2_with fail
        go_roundw
        case rel =>
          refine ⟨k + 1, by omega, by go_num, (HAT.out.two hb02 _ _ _ _).drew, ((HF1.out.setCell _ _).setCell _ _).drew, ((HF2.out.setCell _ _).setCell _ _).drew, fun j hj => ?_, ((hB.setCell hle2 _).setCell hle2 _).drew⟩
          by_cases e : j = k
          · subst e
            rw [← HS0.out, ← HS1.out]
            exact ⟨cell_two_fst hv0 (by omega), cell_two_snd hv1 (by omega)⟩
          · obtain ⟨d0, d1⟩ := HD.out j (by omega)
            exact ⟨cell_two_at d0 (by omega) (by omega), cell_two_at d1 (by omega) (by omega)⟩
        case measure => simp [intOf]; omega
      · have hge : k = n2 := by omega
        subst hge
        have g1 : ¬ (k : Int) < (k : Int) := by omega
        have e0 : wr.cell? ⟨B0, 0, none⟩ = some (.slice a1 n1 c1) := hat.c0
        have e2 : wr.cell? ⟨B0, 2, none⟩ = some (.string loc) := hat.c2
        have e3 : wr.cell? ⟨B0, 3, none⟩ = some (.slice a3 n3 c3) := hat.c3
        have e4 : wr.cell? ⟨B0, 4, none⟩ = some (.bool bt) := hat.c4
        obtain ⟨v0, hv0⟩ := hf1.cell 0 (by omega)
        obtain ⟨v1, hv1⟩ := hf1.cell 1 (by omega)
        obtain ⟨v2, hv2⟩ := hf1.cell 2 (by omega)
        obtain ⟨v3, hv3⟩ := hf1.cell 3 (by omega)
        obtain ⟨v4, hv4⟩ := hf1.cell 4 (by omega)
        obtain ⟨v5, hv5⟩ := hf1.cell 5 (by omega)
        have z0 : wr.frozen? ⟨B1, 0, none⟩ = false := hf1.free _
        have z1 : wr.frozen? ⟨B1, 1, none⟩ = false := hf1.free _
        have z2 : wr.frozen? ⟨B1, 2, none⟩ = false := hf1.free _
        have z3 : wr.frozen? ⟨B1, 3, none⟩ = false := hf1.free _
        have z4 : wr.frozen? ⟨B1, 4, none⟩ = false := hf1.free _
        have z5 : wr.frozen? ⟨B1, 5, none⟩ = false := hf1.free _
        clear hat hf1 hf2 hdone
        go_wp2_with fail
        exact bodyPost_ret (v := .agg #[.slice a1 n1 c1, .bool false, .slice (some ⟨B2, 0, none⟩) k k, .string loc, .slice a3 n3 c3, .bool bt]) (by simp [results, Try.results17, go_sem, *]) rfl ⟨⟨some ⟨B2, 0, none⟩, k, rfl, rfl, fun _ => ⟨B2, 0, rfl, fun i hi => by
          obtain ⟨d0, d1⟩ := HD.out i hi
          exact ⟨(cell_six wr B1 _ _ _ _ _ _ _ _ _ _ _ _ (by exact hb12.symm)).trans (by simpa using d0), (cell_six wr B1 _ _ _ _ _ _ _ _ _ _ _ _ (by exact hb12.symm)).trans (by simpa using d1)⟩⟩, fun ad h => by cases h; exact hle2⟩, below_six hB B1 _ _ _ _ _ _ _ _ _ _ _ _ hle1⟩
end Go.Proofs.Qxb6618931a
