/-
  zzUser, zzAccount: the claims that they build.
-/
import Derived.Test.Qxb6618931aConn
namespace Go.Proofs.Qxb6618931a
open Go.RowKit
set_option linter.unusedVariables false

theorem Spans.setCell {w : World} {a : Option Addr} {n : Nat} {T : Nat → ByteArray × ByteArray} (h : Spans w a n T) {B : Nat} (hne : ∀ ad, a = some ad → ad.block ≠ B) (i : Nat) (v : Value) : Spans (w.setCell ⟨B, i, none⟩ v) a n T := by
  intro hn
  obtain ⟨b, off, rfl, hc⟩ := h hn
  have hb : b ≠ B := hne _ rfl
  refine ⟨b, off, rfl, fun j hj => ?_⟩
  obtain ⟨h1, h2⟩ := hc j hj
  exact ⟨(World.cell?_setCell_other _ _ _ _ (fun e => hb (by injection e with e _ _; exact e.symm))).trans h1, (World.cell?_setCell_other _ _ _ _ (fun e => hb (by injection e with e _ _; exact e.symm))).trans h2⟩

/-- The six cells of a ConnectLimits made of l; it and its times lie at M or behind. -/
def ConnAt (M : Nat) (w : World) (b off : Nat) (l : Lim) : Prop :=
  ∃ a' c', w.cell? ⟨b, off, none⟩ = some (.slice l.a1 l.n1 l.c1) ∧ w.cell? ⟨b, off + 1, none⟩ = some (.bool false) ∧ w.cell? ⟨b, off + 2, none⟩ = some (.slice a' l.n2 c') ∧ w.cell? ⟨b, off + 3, none⟩ = some (.string l.loc) ∧
    w.cell? ⟨b, off + 4, none⟩ = some (.slice l.a3 l.n3 l.c3) ∧ w.cell? ⟨b, off + 5, none⟩ = some (.bool l.bt) ∧ a'.isNone = l.a2.isNone ∧ Spans w a' l.n2 l.T ∧ M ≤ b ∧ ∀ ad, a' = some ad → M ≤ ad.block
theorem ConnAt.below {M : Nat} {w w' : World} {b off : Nat} {l : Lim} (hb : Below w.heap.size w w') (h : ConnAt M w b off l) : ConnAt M w' b off l := by
  obtain ⟨a', c', h0, h1, h2, h3, h4, h5, h6, h7, h8⟩ := h
  have hlt : b < w.heap.size := World.block_lt_of_cell? _ _ h0
  exact ⟨a', c', (hb.cell (p := ⟨b, off, none⟩) hlt).trans h0, (hb.cell (p := ⟨b, off + 1, none⟩) hlt).trans h1, (hb.cell (p := ⟨b, off + 2, none⟩) hlt).trans h2, (hb.cell (p := ⟨b, off + 3, none⟩) hlt).trans h3, (hb.cell (p := ⟨b, off + 4, none⟩) hlt).trans h4, (hb.cell (p := ⟨b, off + 5, none⟩) hlt).trans h5, h6, h7.below hb, h8⟩
theorem ConnAt.setCell {M : Nat} {w : World} {b off : Nat} {l : Lim} (h : ConnAt M w b off l) {B : Nat} (hB : B < M) (i : Nat) (v : Value) : ConnAt M (w.setCell ⟨B, i, none⟩ v) b off l := by
  obtain ⟨a', c', h0, h1, h2, h3, h4, h5, h6, h7, h8, h9⟩ := h
  have hne : ∀ j, (⟨B, i, none⟩ : Addr) ≠ ⟨b, j, none⟩ := fun j e => by injection e with e _ _; omega
  exact ⟨a', c', (World.cell?_setCell_other _ _ _ _ (hne _)).trans h0, (World.cell?_setCell_other _ _ _ _ (hne _)).trans h1, (World.cell?_setCell_other _ _ _ _ (hne _)).trans h2, (World.cell?_setCell_other _ _ _ _ (hne _)).trans h3, (World.cell?_setCell_other _ _ _ _ (hne _)).trans h4, (World.cell?_setCell_other _ _ _ _ (hne _)).trans h5, h6, h7.setCell (fun ad e => by have := h9 ad e; omega) i v, h8, h9⟩
theorem ConnAt.any {M : Nat} {w : World} {b off : Nat} {l : Lim} (h : ConnAt M w b off l) : ConnAt 0 w b off l := by
  obtain ⟨a', c', h0, h1, h2, h3, h4, h5, h6, h7, h8, h9⟩ := h
  exact ⟨a', c', h0, h1, h2, h3, h4, h5, h6, h7, Nat.zero_le _, fun _ _ => Nat.zero_le _⟩

/-- A user's claims. -/
structure UserAt (w : World) (u : Nat) (issuer : ByteArray) (own : Lim) : Prop where
  iss : w.cell? ⟨u, 2, none⟩ = some (.string issuer)
  conn : ConnAt 0 w u 11 own
theorem UserAt.below {w w' : World} {u : Nat} {issuer : ByteArray} {own : Lim} (hb : Below w.heap.size w w') (h : UserAt w u issuer own) : UserAt w' u issuer own :=
  ⟨(hb.cell (p := ⟨u, 2, none⟩) (World.block_lt_of_cell? _ _ h.iss)).trans h.iss, h.conn.below hb⟩
/-- It returns a user. -/
def UserRet (issuer : ByteArray) (own : Lim) (e : Ending) (w : World) : Prop := ∃ u, e = .returned (.pointer (some ⟨u, 0, none⟩)) ∧ UserAt w u issuer own

set_option maxRecDepth 100000 in
set_option maxHeartbeats 1600000 in
theorem user_any (issuer : ByteArray) (l : Lim) (w : World) (h : LimOK w l) (hm : l.n2 ≤ 1048576) :
    Calls Try.prog 8 #[.string issuer, .agg #[.slice l.a1 l.n1 l.c1, .slice l.a2 l.n2 l.c2, .string l.loc, .slice l.a3 l.n3 l.c3, .bool l.bt]] w fun e w' => UserRet issuer l e w' ∧ Below w.heap.size w w' := by
  have H : Hid (LimOK w l) := h
  clear h
  obtain ⟨W, hW⟩ : ∃ W, W = w.alloc (.cells #[.slice l.a1 l.n1 l.c1, .slice l.a2 l.n2 l.c2, .string l.loc, .slice l.a3 l.n3 l.c3, .bool l.bt] 25) := ⟨_, rfl⟩
  have HB : Hid (Below w.heap.size w W) := by rw [hW]; exact (Below.refl _ _).alloc (Nat.le_refl _) _
  go_enter Try.func8, Try.ntmps8
  go_wp2_with fail
  rw [← hW]
  refine (connect_any l W (H.out.below HB.out) hm).mono ?_
  rintro e w1 ⟨⟨a', c', rfl, h6, h7, h8⟩, hb1⟩
  have H6 : Hid (a'.isNone = l.a2.isNone) := h6
  have H7 : Hid (Spans w1 a' l.n2 l.T) := h7
  clear h6 h7 h8 hW
  go_wp2_with fail
  go_ret
  exact ⟨⟨w1.heap.size, rfl, World.cell?_alloc_mark _ _ _ _ 2, a', c', World.cell?_alloc_mark _ _ _ _ 11, World.cell?_alloc_mark _ _ _ _ 12, World.cell?_alloc_mark _ _ _ _ 13, World.cell?_alloc_mark _ _ _ _ 14, World.cell?_alloc_mark _ _ _ _ 15, World.cell?_alloc_mark _ _ _ _ 16, H6.out, H7.out.below ((Below.refl _ _).alloc (Nat.le_refl _) _), Nat.zero_le _, fun _ _ => Nat.zero_le _⟩,
    HB.out.trans ((hb1.mono HB.out.size).alloc (Nat.le_trans HB.out.size hb1.size) _)⟩

theorem info65 : (Try.prog.info? 65).map (fun i => (i.zero, i.size, i.bytes)) = some (some (.agg #[.string ByteArray.empty, .pointer none]), 2, 24) := by kernel_rfl
theorem make56 (n : Nat) (h : n ≤ 1048577) (w : World) : (Instr.makeSlice 56 (.int .i64 n) (.int .i64 n)).run Try.prog w = .ok (.slice (some ⟨w.heap.size, 0, none⟩) n n) (w.alloc (.cells (madeCells #[.string ByteArray.empty, .pointer none] (n * 2)) 65)) := by
  have hi := info65
  cases hx : Try.prog.info? 65 with
  | none => rw [hx] at hi; simp at hi
  | some i =>
    rw [hx] at hi
    simp at hi
    obtain ⟨h1, h2, h3⟩ := hi
    have r := run_makeSlice (P := Try.prog) w 56 65 i _ Try.underlying56 hx h1 .i64 .i64 n n (by omega) (Int.le_refl _) (by rw [h2]; simp; omega) (by rw [h3]; omega) (by omega)
    rw [h2] at r
    simpa [Value.cells] using r
theorem made_odd (x y : Value) (n j : Nat) (hj : j < n) : (madeCells #[x, y] (n * 2))[j * 2 + 1]? = some y := by
  have hlt : j * 2 + 1 < n * 2 := by omega
  have hm : (j * 2 + 1) % 2 = 1 := by omega
  simp [madeCells, hlt, hm]

/-- What a key's scope has become. -/
def ScopeConn (M : Nat) (w : World) (sc' : Option Addr) (κ : Key) : Prop :=
  (κ.sc = none ∧ sc' = none) ∨ (κ.sc ≠ none ∧ ∃ b, sc' = some ⟨b, 0, none⟩ ∧ ConnAt M w b 9 κ.l)
theorem ScopeConn.below {M : Nat} {w w' : World} {sc' : Option Addr} {κ : Key} (hb : Below w.heap.size w w') (h : ScopeConn M w sc' κ) : ScopeConn M w' sc' κ := by
  rcases h with h | ⟨h1, b, h2, h3⟩
  · exact .inl h
  · exact .inr ⟨h1, b, h2, h3.below hb⟩
theorem ScopeConn.setCell {M : Nat} {w : World} {sc' : Option Addr} {κ : Key} (h : ScopeConn M w sc' κ) {B : Nat} (hB : B < M) (i : Nat) (v : Value) : ScopeConn M (w.setCell ⟨B, i, none⟩ v) sc' κ := by
  rcases h with h | ⟨h1, b, h2, h3⟩
  · exact .inl h
  · exact .inr ⟨h1, b, h2, h3.setCell hB i v⟩
theorem ScopeConn.any {M : Nat} {w : World} {sc' : Option Addr} {κ : Key} (h : ScopeConn M w sc' κ) : ScopeConn 0 w sc' κ := by
  rcases h with h | ⟨h1, b, h2, h3⟩
  · exact .inl h
  · exact .inr ⟨h1, b, h2, h3.any⟩

/-- Entry i of a row of signing keys. -/
def EntryAt (M : Nat) (w : World) (B i : Nat) (κ : Key) : Prop := w.cell? ⟨B, i * 2, none⟩ = some (.string κ.key) ∧ ∃ sc', w.cell? ⟨B, i * 2 + 1, none⟩ = some (.pointer sc') ∧ ScopeConn M w sc' κ
theorem EntryAt.below {M : Nat} {w w' : World} {B i : Nat} {κ : Key} (hb : Below w.heap.size w w') (h : EntryAt M w B i κ) : EntryAt M w' B i κ := by
  obtain ⟨h1, sc', h2, h3⟩ := h
  exact ⟨(hb.cell (p := ⟨B, i * 2, none⟩) (World.block_lt_of_cell? _ _ h1)).trans h1, sc', (hb.cell (p := ⟨B, i * 2 + 1, none⟩) (World.block_lt_of_cell? _ _ h2)).trans h2, h3.below hb⟩
theorem EntryAt.setCell {M : Nat} {w : World} {B i : Nat} {κ : Key} (h : EntryAt M w B i κ) (hB : B < M) (j : Nat) (h1 : j ≠ i * 2) (h2 : j ≠ i * 2 + 1) (v : Value) : EntryAt M (w.setCell ⟨B, j, none⟩ v) B i κ := by
  obtain ⟨e1, sc', e2, e3⟩ := h
  exact ⟨(World.cell?_setCell_other _ _ _ _ (fun e => h1 (by injection e))).trans e1, sc', (World.cell?_setCell_other _ _ _ _ (fun e => h2 (by injection e))).trans e2, e3.setCell hB j v⟩
theorem EntryAt.any {M : Nat} {w : World} {B i : Nat} {κ : Key} (h : EntryAt M w B i κ) : EntryAt 0 w B i κ := by
  obtain ⟨e1, sc', e2, e3⟩ := h
  exact ⟨e1, sc', e2, e3.any⟩

theorem EntryAt.mk' {M : Nat} {w : World} {B i : Nat} {κ : Key} {sc' : Option Addr} (h1 : w.cell? ⟨B, i * 2, none⟩ = some (.string κ.key)) (h2 : w.cell? ⟨B, i * 2 + 1, none⟩ = some (.pointer sc')) (h3 : ScopeConn M w sc' κ) : EntryAt M w B i κ := ⟨h1, sc', h2, h3⟩

/-- An account's claims. -/
def AccAt (w : World) (p n : Nat) (K : Nat → Key) : Prop :=
  ∃ a' c', w.cell? ⟨p, 20, none⟩ = some (.slice a' n c') ∧ (0 < n → ∃ b, a' = some ⟨b, 0, none⟩ ∧ ∀ i, i < n → EntryAt 0 w b i (K i))
theorem AccAt.below {w w' : World} {p n : Nat} {K : Nat → Key} (hb : Below w.heap.size w w') (h : AccAt w p n K) : AccAt w' p n K := by
  obtain ⟨a', c', h1, h2⟩ := h
  refine ⟨a', c', (hb.cell (p := ⟨p, 20, none⟩) (World.block_lt_of_cell? _ _ h1)).trans h1, fun hn => ?_⟩
  obtain ⟨b, e, h3⟩ := h2 hn
  exact ⟨b, e, fun i hi => (h3 i hi).below hb⟩
def AccRet (n : Nat) (K : Nat → Key) (e : Ending) (w : World) : Prop := ∃ p, e = .returned (.pointer (some ⟨p, 0, none⟩)) ∧ AccAt w p n K

set_option maxRecDepth 100000 in
set_option maxHeartbeats 1600000 in
theorem account_any (a : Option Addr) (n c : Nat) (K : Nat → Key) (w : World) (hn : n ≤ 1048577) (h : KeysAt w a n K) (hm : ∀ i, i < n → (K i).sc ≠ none → (K i).l.n2 ≤ 1048576) :
    Calls Try.prog 10 #[.slice a n c] w fun e w' => AccRet n K e w' ∧ Below w.heap.size w w' := by
  have H : Hid (KeysAt w a n K) := h
  have HM : Hid (∀ i, i < n → (K i).sc ≠ none → (K i).l.n2 ≤ 1048576) := hm
  clear h hm
  have qn := fun (w : World) (a : Option Addr) (n c : Nat) => run_neq_slice_nil_any (P := Try.prog) w 26 29 a n c 0 0 Try.underlying26
  cases a with
  | none =>
    have hz : n = 0 := by
      by_cases e : 0 < n
      · obtain ⟨_, _, h, _⟩ := H.out.row e
        cases h
      · omega
    subst hz
    go_enter Try.func10, Try.ntmps10
    go_wp2_with fail
    go_ret
    exact ⟨⟨w.heap.size, rfl, none, 0, World.cell?_alloc_mark _ _ _ _ 20, fun h => absurd h (by omega)⟩, (Below.refl _ _).alloc (Nat.le_refl _) _⟩
  | some ad =>
    have hmk := make56 n hn
    obtain ⟨B, hB⟩ : ∃ B, B = w.heap.size := ⟨_, rfl⟩
    obtain ⟨W, hW⟩ : ∃ W, W = w.alloc (.cells (madeCells #[.string ByteArray.empty, .pointer none] (n * 2)) 65) := ⟨_, rfl⟩
    have HB0 : Hid (Below w.heap.size w W) := by rw [hW]; exact (Below.refl _ _).alloc (Nat.le_refl _) _
    have HF0 : Hid (Free W B (n * 2)) := by rw [hW, hB]; exact free_alloc w _ 65 _ (size_madeCells _ _)
    have HZ0 : Hid (∀ j, j < n → W.cell? ⟨B, j * 2 + 1, none⟩ = some (.pointer none)) := by
      intro j hj
      rw [hW, hB, World.cell?_alloc_mark w _ 65 _ _]
      exact made_odd _ _ n j hj
    have hl0 : B < W.heap.size := by rw [hW, hB]; simp
    have HL0 : Hid (B < W.heap.size) := hl0
    clear hl0
    have hle : w.heap.size ≤ B := by omega
    have HW : Hid (W = w.alloc (.cells (madeCells #[.string ByteArray.empty, .pointer none] (n * 2)) 65)) := hW
    have HBB : Hid (B = w.heap.size) := hB
    clear hW hB
    go_enter Try.func10, Try.ntmps10
    go_wp2_with fail
    rw [← HW.out, ← HBB.out]
    clear hmk HW HBB
    go_loopw [4] (fun i wr => ∃ k : Nat, k ≤ n ∧ i = .int .i64 k ∧ Free wr B (n * 2) ∧ (∀ j, j < k → EntryAt (B + 1) wr B j (K j)) ∧ (∀ j, k ≤ j → j < n → wr.cell? ⟨B, j * 2 + 1, none⟩ = some (.pointer none)) ∧ B < wr.heap.size ∧ Below w.heap.size w wr) (fun i _ => n - (intOf i).toNat)
    case atStart => exact ⟨0, Nat.zero_le _, rfl, HF0.out, fun j hj => absurd hj (by omega), fun j _ hj => HZ0.out j hj, HL0.out, HB0.out⟩
    case round =>
      clear HF0 HZ0 HL0 HB0
      obtain ⟨k, hk, rfl, hf, hdone, hrest, hlB, hB⟩ := hrel
      have HF : Hid (Free wr B (n * 2)) := hf
      have HD : Hid (∀ j, j < k → EntryAt (B + 1) wr B j (K j)) := hdone
      have HR : Hid (∀ j, k ≤ j → j < n → wr.cell? ⟨B, j * 2 + 1, none⟩ = some (.pointer none)) := hrest
      clear hdone hrest
      by_cases hlt : k < n
      · have g1 : (k : Int) < (n : Int) := by omega
        obtain ⟨b0, o0, ha, hc⟩ := H.out.row (by omega)
        obtain ⟨k0, k1⟩ := hc k hlt
        have hso := H.out.ok k hlt
        have hmm := HM.out k hlt
        obtain ⟨κ, hκ⟩ : ∃ κ, κ = K k := ⟨_, rfl⟩
        rw [← hκ] at k0 k1 hso hmm
        have HK : Hid (κ = K k) := hκ
        obtain ⟨key, sc, l⟩ := κ
        simp only at k0 k1 hso hmm
        have hb0 : b0 ≠ B := by have := World.block_lt_of_cell? _ _ k0; simp at this; omega
        have e0 : wr.cell? ⟨b0, o0 + k * 2, none⟩ = some (.string key) := (hB.cell (p := ⟨b0, o0 + k * 2, none⟩) (World.block_lt_of_cell? _ _ k0)).trans k0
        have e1 : wr.cell? ⟨b0, o0 + k * 2 + 1, none⟩ = some (.pointer sc) := (hB.cell (p := ⟨b0, o0 + k * 2 + 1, none⟩) (World.block_lt_of_cell? _ _ k1)).trans k1
        obtain ⟨v0, hv0⟩ := hf.cell (k * 2) (by omega)
        have z0 : wr.frozen? ⟨B, k * 2, none⟩ = false := hf.free _
        obtain ⟨W1, hW1⟩ : ∃ W1, W1 = wr.setCell ⟨B, k * 2, none⟩ (.string key) := ⟨_, rfl⟩
        have HB1 : Hid (Below w.heap.size w W1) := by rw [hW1]; exact hB.setCell hle _
        have HF1 : Hid (Free W1 B (n * 2)) := by rw [hW1]; exact hf.setCell _ _
        have HD1 : Hid (∀ j, j < k → EntryAt (B + 1) W1 B j (K j)) := by rw [hW1]; exact fun j hj => (HD.out j hj).setCell (Nat.lt_succ_self _) _ (by omega) (by omega) _
        have HR1 : Hid (∀ j, k ≤ j → j < n → W1.cell? ⟨B, j * 2 + 1, none⟩ = some (.pointer none)) := by
          rw [hW1]
          exact fun j h1 h2 => (World.cell?_setCell_other _ _ _ _ (fun e => by injection e with _ e _; omega)).trans (HR.out j h1 h2)
        have HK1 : Hid (W1.cell? ⟨B, k * 2, none⟩ = some (.string key)) := by rw [hW1]; exact World.cell?_setCell_same _ _ _ hv0
        have hlB1 : B < W1.heap.size := by rw [hW1]; simpa using hlB
        have x1 : W1.cell? ⟨b0, o0 + k * 2 + 1, none⟩ = some (.pointer sc) := by rw [hW1]; exact (World.cell?_setCell_other _ _ _ _ (fun e => by injection e with e _ _; exact hb0 e.symm)).trans e1
        have HW1 : Hid (W1 = wr.setCell ⟨B, k * 2, none⟩ (.string key)) := hW1
        have HSO : Hid (ScopeOK w sc l) := hso
        simp only [Option.some.injEq] at ha
        subst ha
        clear hc k0 k1 hf hκ hW1 hso
        cases sc with
        | none =>
          go_wp2_with fail
          refine ⟨⟨k + 1, by omega, by go_num, ?_⟩, by simp [intOf]; omega⟩
          rw [← HW1.out]
          refine ⟨HF1.out, fun j hj => ?_, fun j h1 h2 => HR1.out j (by omega) h2, hlB1, HB1.out⟩
          by_cases e : j = k
          · subst e
            rw [← HK.out]
            exact ⟨HK1.out, none, HR1.out j (Nat.le_refl _) hlt, .inl ⟨rfl, rfl⟩⟩
          · exact HD1.out j (by omega)
        | some sd =>
          obtain ⟨bs, os, rfl, hat, hok⟩ := HSO.out sd rfl
          have hbs : bs ≠ B := by have := World.block_lt_of_cell? _ _ hat.c0; simp at this; omega
          have hatr : LimAt wr bs os l := hat.below hB (World.block_lt_of_cell? _ _ hat.c0)
          have HOK : Hid (LimOK W1 l) := hok.below HB1.out
          have y0 := hatr.c0
          have y1 := hatr.c1
          have y2 := hatr.c2
          have y3 := hatr.c3
          have y4 := hatr.c4
          have hml : l.n2 ≤ 1048576 := hmm (by simp)
          clear hat hok hmm hatr
          go_wp2_with fail
          rw [← HW1.out]
          refine (connect_any l W1 HOK.out hml).mono ?_
          rintro e w2 ⟨⟨a', c', rfl, h6, h7, h8⟩, hb2⟩
          have H6 : Hid (a'.isNone = l.a2.isNone) := h6
          have H7 : Hid (Spans w2 a' l.n2 l.T) := h7
          have H8 : Hid (∀ ad, a' = some ad → W1.heap.size ≤ ad.block) := h8
          have HB2 : Hid (Below W1.heap.size W1 w2) := hb2
          have hlB2 : B < w2.heap.size := Nat.lt_of_lt_of_le hlB1 hb2.size
          have u1 : w2.cell? ⟨B, k * 2 + 1, none⟩ = some (.pointer none) := (hb2.cell (p := ⟨B, k * 2 + 1, none⟩) hlB1).trans (HR1.out k (Nat.le_refl _) hlt)
          have u2 : w2.frozen? ⟨B, k * 2 + 1, none⟩ = false := (hb2.frozen (p := ⟨B, k * 2 + 1, none⟩) hlB1).trans (HF1.out.free _)
          clear h6 h7 h8 hb2
          go_wp2_with fail
          obtain ⟨X, hX⟩ : ∃ X, X = w2.setCell ⟨B, k * 2 + 1, none⟩ (.pointer (some ⟨w2.heap.size, 0, none⟩)) := ⟨_, rfl⟩
          have hXs : X.heap.size = w2.heap.size := by rw [hX]; simp
          have fX : Free X B (n * 2) := by rw [hX]; exact (HF1.out.below HB2.out hlB1).setCell _ _
          have dX : ∀ j, j < k → EntryAt (B + 1) X B j (K j) := by rw [hX]; exact fun j hj => ((HD1.out j hj).below HB2.out).setCell (Nat.lt_succ_self _) _ (by omega) (by omega) _
          have rX : ∀ j, k + 1 ≤ j → j < n → X.cell? ⟨B, j * 2 + 1, none⟩ = some (.pointer none) := by
            rw [hX]
            exact fun j h1 h2 => ((World.cell?_setCell_other _ _ _ _ (fun e => by injection e with _ e _; omega)).trans (HB2.out.cell (p := ⟨B, j * 2 + 1, none⟩) hlB1)).trans (HR1.out j (by omega) h2)
          have kX : X.cell? ⟨B, k * 2, none⟩ = some (.string key) := by
            rw [hX]
            exact ((World.cell?_setCell_other _ _ _ _ (fun e => by injection e with _ e _; omega)).trans (HB2.out.cell (p := ⟨B, k * 2, none⟩) hlB1)).trans HK1.out
          have pX : X.cell? ⟨B, k * 2 + 1, none⟩ = some (.pointer (some ⟨w2.heap.size, 0, none⟩)) := by rw [hX]; exact World.cell?_setCell_same _ _ _ u1
          have sX : Spans X a' l.n2 l.T := by rw [hX]; exact H7.out.setCell (fun ad e => by have := H8.out ad e; omega) _ _
          have bX : Below w.heap.size w X := by rw [hX]; exact (HB1.out.trans (HB2.out.mono HB1.out.size)).setCell hle _
          have hal : B + 1 ≤ w2.heap.size := hlB2
          have h8' : ∀ ad, a' = some ad → B + 1 ≤ ad.block := fun ad e => by have := H8.out ad e; omega
          refine ⟨⟨k + 1, by omega, by go_num, ?_⟩, by simp [intOf]; omega⟩
          rw [← hX]
          rw [← hXs] at pX hal
          clear hX hXs
          refine ⟨fX.below ((Below.refl (B + 1) _).alloc hal _) (Nat.lt_succ_self _), fun j hj => ?_, fun j h1 h2 => ((Below.refl (B + 1) X).alloc hal _).cell (p := ⟨B, j * 2 + 1, none⟩) (Nat.lt_succ_self _) |>.trans (rX j h1 h2), ?_, bX.alloc bX.size _⟩
          · by_cases e : j = k
            · subst e
              rw [← HK.out]
              refine EntryAt.mk' (((Below.refl (B + 1) X).alloc hal _).cell (p := ⟨B, j * 2, none⟩) (Nat.lt_succ_self _) |>.trans kX) (((Below.refl (B + 1) X).alloc hal _).cell (p := ⟨B, j * 2 + 1, none⟩) (Nat.lt_succ_self _) |>.trans pX) (.inr ⟨by simp, X.heap.size, rfl, a', c', World.cell?_alloc_mark _ _ _ _ 9, World.cell?_alloc_mark _ _ _ _ 10, World.cell?_alloc_mark _ _ _ _ 11, World.cell?_alloc_mark _ _ _ _ 12, World.cell?_alloc_mark _ _ _ _ 13, World.cell?_alloc_mark _ _ _ _ 14, H6.out, sX.below ((Below.refl _ _).alloc (Nat.le_refl _) _), hal, h8'⟩)
            · exact (dX j (by omega)).below ((Below.refl _ _).alloc (Nat.le_refl _) _)
          · simp; omega
      · have hge : k = n := by omega
        subst hge
        have g1 : ¬ (k : Int) < (k : Int) := by omega
        go_wp2_with fail
        go_ret
        exact ⟨⟨wr.heap.size, rfl, some ⟨B, 0, none⟩, k, World.cell?_alloc_mark _ _ _ _ 20, fun _ => ⟨B, rfl, fun i hi => ((HD.out i hi).any).below ((Below.refl _ _).alloc (Nat.le_refl _) _)⟩⟩, hB.alloc hB.size _⟩
end Go.Proofs.Qxb6618931a
