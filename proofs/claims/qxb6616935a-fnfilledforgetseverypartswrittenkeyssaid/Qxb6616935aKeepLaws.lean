/-
  WHAT THE STORE KEEPS, as a list G of pairs (node, its seqs) in the order in which they were kept: words on worlds, and how each step carries them on. No walk here.
-/
import Derived.Test.Qxb6616935aStore
import Derived.Maps.OwnSet
import Derived.Maps.Ext
namespace Go.Proofs.Qxb6616935a
open Go.RowKit
set_option linter.unusedVariables false

/-- The slice at 'a' reads as the list l of numbers. -/
def RowAt (w : World) (a : Option Addr) (l : List Int) : Prop :=
  0 < l.length → ∃ b off, a = some ⟨b, off, none⟩ ∧ ∀ i, i < l.length → w.cell? ⟨b, off + i, none⟩ = some (.int .u64 (l.getD i 0))

/-! ### cells of blocks other than the store's -/
/-- Every block of cells other than s is as it was. -/
def Keeps (s : Nat) (w w' : World) : Prop := ∀ j cs e fr, j ≠ s → w.heap[j]? = some (.cells cs e fr) → w'.heap[j]? = some (.cells cs e fr)

theorem Keeps.refl (s : Nat) (w : World) : Keeps s w w := fun _ _ _ _ _ h => h
theorem Keeps.trans {s : Nat} {a b c : World} (h : Keeps s a b) (k : Keeps s b c) : Keeps s a c := fun j cs e fr hj hh => k j cs e fr hj (h j cs e fr hj hh)
theorem heap_lt {w : World} {j : Nat} {o : Obj} (h : w.heap[j]? = some o) : j < w.heap.size := (Array.getElem?_eq_some_iff.1 h).1
theorem Keeps.alloc {s : Nat} {a w : World} (h : Keeps s a w) (o : Obj) : Keeps s a (w.alloc o) :=
  h.trans fun j cs e fr _ hh => by rw [Below.heap_alloc w o j (heap_lt hh)]; exact hh
theorem Keeps.setCell {s : Nat} {a w : World} (h : Keeps s a w) (off : Nat) (v : Value) : Keeps s a (w.setCell ⟨s, off, none⟩ v) :=
  h.trans fun j cs e fr hj hh => by rw [Below.heap_setCell w ⟨s, off, none⟩ v j hj]; exact hh
theorem Keeps.drew {s : Nat} {a w : World} (h : Keeps s a w) : Keeps s a w.drew := h
theorem Keeps.grown {s : Nat} {a w w' : World} {row : Option Nat} (h : Keeps s a w) (hg : w.grownBy w' row) (hr : ∀ b, row = some b → ∀ cs e fr, w.heap[b]? ≠ some (.cells cs e fr)) : Keeps s a w' :=
  h.trans fun j cs e fr _ hh => by rw [hg.block j (heap_lt hh) (fun e' => hr j e'.symm _ _ _ hh)]; exact hh
theorem Keeps.below {s : Nat} {w w' : World} (hb : Below w.heap.size w w') : Keeps s w w' := fun j cs e fr _ hh => by rw [hb.block j (heap_lt hh)]; exact hh

theorem cells_of_cell {w : World} {a : Addr} {v : Value} (h : w.cell? a = some v) : ∃ cs e fr, w.heap[a.block]? = some (.cells cs e fr) := by
  unfold World.cell? at h
  split at h
  · rename_i cs e fr hh; exact ⟨_, _, _, hh⟩
  · cases h
theorem Keeps.cell {s : Nat} {w w' : World} (h : Keeps s w w') {a : Addr} {v : Value} (hs : a.block ≠ s) (hc : w.cell? a = some v) : w'.cell? a = some v := by
  obtain ⟨cs, e, fr, hh⟩ := cells_of_cell hc
  rw [← hc]
  exact World.cell?_of_block ((h _ _ _ _ hs hh).trans hh.symm)
theorem Keeps.row {s : Nat} {w w' : World} (h : Keeps s w w') {a : Option Addr} {l : List Int} (hs : ∀ x, a = some x → 0 < l.length → x.block ≠ s) (hr : RowAt w a l) : RowAt w' a l := by
  intro hl
  obtain ⟨b, off, rfl, hc⟩ := hr hl
  exact ⟨b, off, rfl, fun i hi => h.cell (a := ⟨b, off + i, none⟩) (hs ⟨b, off, none⟩ rfl hl) (hc i hi)⟩

/-! ### the store -/
theorem StoreM.lt {w : World} {s : Nat} {m : Int} {k r : Option Nat} (h : StoreM w s m k r) : s < w.heap.size := World.block_lt_of_cell? _ _ h.mu
theorem StoreM.of_block {w w' : World} {s : Nat} {m : Int} {k r : Option Nat} (h : StoreM w s m k r) (hb : w'.heap[s]? = w.heap[s]?) : StoreM w' s m k r := by
  have hc : ∀ j, w'.cell? ⟨s, j, none⟩ = w.cell? ⟨s, j, none⟩ := fun j => World.cell?_of_block hb
  have hf : ∀ j, w'.frozen? ⟨s, j, none⟩ = w.frozen? ⟨s, j, none⟩ := fun j => World.frozen?_of_block hb
  exact ⟨(hc _).trans h.mu, (hc _).trans h.kept, (hc _).trans h.refilled, fun i hi => (hc _).trans (h.part i hi), fun i hi => by rw [hc]; exact h.written i hi, fun j => (hf j).trans (h.free j)⟩
theorem StoreM.below {w w' : World} {s : Nat} {m : Int} {k r : Option Nat} (h : StoreM w s m k r) (hb : Below w.heap.size w w') : StoreM w' s m k r := h.of_block (hb.block s h.lt)
theorem StoreM.alloc {w : World} {s : Nat} {m : Int} {k r : Option Nat} (h : StoreM w s m k r) (o : Obj) : StoreM (w.alloc o) s m k r := h.of_block (Below.heap_alloc w o s h.lt)
theorem StoreM.grown {w w' : World} {s : Nat} {m : Int} {k r : Option Nat} {row : Option Nat} (h : StoreM w s m k r) (hg : w.grownBy w' row) (hr : ∀ b, row = some b → ∀ cs e fr, w.heap[b]? ≠ some (.cells cs e fr)) : StoreM w' s m k r := by
  obtain ⟨cs, e, fr, hh⟩ := cells_of_cell h.mu
  exact h.of_block (hg.block s h.lt (fun e' => hr s e'.symm _ _ _ hh))

theorem cell_set (w : World) (s a b : Nat) (v : Value) {u : Value} (h : w.cell? ⟨s, b, none⟩ = some u) : (w.setCell ⟨s, a, none⟩ v).cell? ⟨s, b, none⟩ = some (if a = b then v else u) := by
  by_cases e : a = b
  · subst e
    rw [if_pos rfl]
    exact World.cell?_setCell_same w ⟨s, a, none⟩ v h
  · rw [if_neg e, World.cell?_setCell_other w ⟨s, a, none⟩ ⟨s, b, none⟩ v (fun h => e (by cases h; rfl))]
    exact h

theorem StoreM.setKept {w : World} {s : Nat} {m : Int} {k r : Option Nat} (h : StoreM w s m k r) (k' : Option Nat) : StoreM (w.setCell ⟨s, 4870, none⟩ (.map k')) s m k' r := by
  refine ⟨(cell_set w s 4870 4868 _ h.mu).trans rfl, (cell_set w s 4870 4870 _ h.kept).trans rfl, (cell_set w s 4870 4873 _ h.refilled).trans rfl, fun i hi => ?_, fun i hi => ?_, fun j => by rw [World.frozen?_setCell]; exact h.free j⟩
  · rw [cell_set w s 4870 _ _ (h.part i hi), if_neg (by omega)]
  · obtain ⟨q, hq⟩ := h.written i hi
    exact ⟨q, by rw [cell_set w s 4870 _ _ hq, if_neg (by omega)]⟩
theorem StoreM.setRefilled {w : World} {s : Nat} {m : Int} {k r : Option Nat} (h : StoreM w s m k r) (r' : Option Nat) : StoreM (w.setCell ⟨s, 4873, none⟩ (.map r')) s m k r' := by
  refine ⟨(cell_set w s 4873 4868 _ h.mu).trans rfl, (cell_set w s 4873 4870 _ h.kept).trans rfl, (cell_set w s 4873 4873 _ h.refilled).trans rfl, fun i hi => ?_, fun i hi => ?_, fun j => by rw [World.frozen?_setCell]; exact h.free j⟩
  · rw [cell_set w s 4873 _ _ (h.part i hi), if_neg (by omega)]
  · obtain ⟨q, hq⟩ := h.written i hi
    exact ⟨q, by rw [cell_set w s 4873 _ _ hq, if_neg (by omega)]⟩

theorem StoreM.setMu {w : World} {s : Nat} {m : Int} {k r : Option Nat} (h : StoreM w s m k r) (m' : Int) : StoreM (w.setCell ⟨s, 4868, none⟩ (.int .i32 m')) s m' k r := by
  refine ⟨(cell_set w s 4868 4868 _ h.mu).trans rfl, (cell_set w s 4868 4870 _ h.kept).trans rfl, (cell_set w s 4868 4873 _ h.refilled).trans rfl, fun i hi => ?_, fun i hi => ?_, fun j => by rw [World.frozen?_setCell]; exact h.free j⟩
  · rw [cell_set w s 4868 _ _ (h.part i hi), if_neg (by omega)]
  · obtain ⟨q, hq⟩ := h.written i hi
    exact ⟨q, by rw [cell_set w s 4868 _ _ hq, if_neg (by omega)]⟩

/-- A part's round: its lock is taken, 'written' becomes nil, the lock is let go. -/
theorem StoreM.partRound {w : World} {s : Nat} {m : Int} {k r : Option Nat} (h : StoreM w s m k r) (i : Nat) (hi : i < 256) :
    StoreM (((w.setCell ⟨s, 4 + i * 19, none⟩ (.int .i32 1)).setCell ⟨s, 4 + i * 19 + 14, none⟩ (.map none)).setCell ⟨s, 4 + i * 19, none⟩ (.int .i32 0)) s m k r ∧
    ∀ j, j < 256 → (j = i ∨ w.cell? ⟨s, 4 + j * 19 + 14, none⟩ = some (.map none)) → (((w.setCell ⟨s, 4 + i * 19, none⟩ (.int .i32 1)).setCell ⟨s, 4 + i * 19 + 14, none⟩ (.map none)).setCell ⟨s, 4 + i * 19, none⟩ (.int .i32 0)).cell? ⟨s, 4 + j * 19 + 14, none⟩ = some (.map none) := by
  have c3 : ∀ b u, w.cell? ⟨s, b, none⟩ = some u → (((w.setCell ⟨s, 4 + i * 19, none⟩ (.int .i32 1)).setCell ⟨s, 4 + i * 19 + 14, none⟩ (.map none)).setCell ⟨s, 4 + i * 19, none⟩ (.int .i32 0)).cell? ⟨s, b, none⟩ =
      some (if 4 + i * 19 = b then .int .i32 0 else if 4 + i * 19 + 14 = b then .map none else if 4 + i * 19 = b then .int .i32 1 else u) := fun b u hu =>
    cell_set _ s _ b _ (cell_set _ s _ b _ (cell_set w s _ b _ hu))
  refine ⟨⟨?_, ?_, ?_, fun j hj => ?_, fun j hj => ?_, fun j => by rw [World.frozen?_setCell, World.frozen?_setCell, World.frozen?_setCell]; exact h.free j⟩, fun j hj hw => ?_⟩
  · rw [c3 _ _ h.mu, if_neg (by omega), if_neg (by omega), if_neg (by omega)]
  · rw [c3 _ _ h.kept, if_neg (by omega), if_neg (by omega), if_neg (by omega)]
  · rw [c3 _ _ h.refilled, if_neg (by omega), if_neg (by omega), if_neg (by omega)]
  · rw [c3 _ _ (h.part j hj)]
    by_cases e : j = i
    · rw [if_pos (by omega)]
    · rw [if_neg (by omega), if_neg (by omega), if_neg (by omega)]
  · obtain ⟨q, hq⟩ := h.written j hj
    rw [c3 _ _ hq]
    by_cases e : j = i
    · rw [if_neg (by omega), if_pos (by omega)]; exact ⟨none, rfl⟩
    · rw [if_neg (by omega), if_neg (by omega), if_neg (by omega)]; exact ⟨q, rfl⟩
  · obtain ⟨q, hq⟩ := h.written j hj
    rw [c3 _ _ hq]
    by_cases e : j = i
    · rw [if_neg (by omega), if_pos (by omega)]
    · rw [if_neg (by omega), if_neg (by omega), if_neg (by omega)]
      rcases hw with hw | hw
      · exact absurd hw e
      · rw [hw] at hq; exact hq.symm

/-! ### what is kept of one node -/
/-- Block g holds a 'kept' whose txns bear the seqs l. -/
def KeptAt (w : World) (s g : Nat) (l : List Int) : Prop :=
  g ≠ s ∧ l.length ≤ 1048576 ∧ ∃ t, t ≠ s ∧ w.cell? ⟨g, 0, none⟩ = some (.slice (some ⟨t, 0, none⟩) l.length l.length) ∧ ∀ i, i < l.length → w.cell? ⟨t, i * 4, none⟩ = some (.int .u64 (l.getD i 0))
theorem KeptAt.keeps {w w' : World} {s g : Nat} {l : List Int} (h : KeptAt w s g l) (k : Keeps s w w') : KeptAt w' s g l := by
  obtain ⟨hg, hl, t, ht, h0, hi⟩ := h
  exact ⟨hg, hl, t, ht, k.cell (a := ⟨g, 0, none⟩) hg h0, fun i hl => k.cell (a := ⟨t, i * 4, none⟩) ht (hi i hl)⟩

/-- How a pointer to a block's head reads, for the ghost of the map 'kept': as the block's number. -/
def ptrElem (v : Value) : Option (DataW Unit × List MemPlace) :=
  match v with
  | .pointer (some ⟨b, 0, none⟩) => some (.lit (.int .u64 b), [])
  | _ => none
theorem ptrElem_mk (b : Nat) : ptrElem (.pointer (some ⟨b, 0, none⟩)) = some (.lit (.int .u64 b), []) := rfl
theorem ptrElem_inv {v : Value} {y : DataW Unit × List MemPlace} (h : ptrElem v = some y) : ∃ b : Nat, v = .pointer (some ⟨b, 0, none⟩) ∧ y = (.lit (.int .u64 b), []) := by
  unfold ptrElem at h
  split at h
  · cases h; exact ⟨_, rfl, rfl⟩
  · cases h

/-- What was kept last of node x. -/
def lastOf (G : List (Int × List Int)) (x : Int) : Option (List Int) := G.foldl (fun acc p => if p.1 = x then some p.2 else acc) none
theorem lastOf_snoc (G : List (Int × List Int)) (n : Int) (l : List Int) (x : Int) : lastOf (G ++ [(n, l)]) x = if n = x then some l else lastOf G x := by
  simp [lastOf, List.foldl_append]

/-- The map 'kept' (its ghost D) holds what G says. -/
structure Reads (w : World) (s : Nat) (D : DataW Unit) (G : List (Int × List Int)) : Prop where
  known : ∀ k, Maps.has D k = true → ∃ x, k = .int .u64 x ∧ (Lit.int .u64 x).wf = true ∧ ∃ l, lastOf G x = some l
  holds : ∀ x l, (Lit.int .u64 x).wf = true → lastOf G x = some l → Maps.has D (.int .u64 x) = true ∧ ∃ g : Nat, (∀ z, D.atKey (.int .u64 x) z = .lit (.int .u64 g)) ∧ KeptAt w s g l

theorem Reads.keeps {w w' : World} {s : Nat} {D : DataW Unit} {G : List (Int × List Int)} (h : Reads w s D G) (k : Keeps s w w') : Reads w' s D G :=
  ⟨h.known, fun x l hx hl => by
    obtain ⟨h1, g, h2, h3⟩ := h.holds x l hx hl
    exact ⟨h1, g, h2, h3.keeps k⟩⟩

theorem isKey_u64 (x : Int) : WideAt.IsKeyLit (.int .u64 x) := trivial

theorem Reads.put {w : World} {s g : Nat} {D : DataW Unit} {G : List (Int × List Int)} {n : Int} {l : List Int} (h : Reads w s D G) (hD : Maps.IsMap D) (hn : (Lit.int .u64 n).wf = true) (hk : KeptAt w s g l) :
    Reads w s (D.put (.int .u64 n) (.lit (.int .u64 g))) (G ++ [(n, l)]) := by
  refine ⟨fun k hk' => ?_, fun x m hx hm => ?_⟩
  · by_cases e : k = .int .u64 n
    · subst e
      exact ⟨n, rfl, hn, l, by rw [lastOf_snoc, if_pos rfl]⟩
    · rw [Maps.has_put_other e] at hk'
      obtain ⟨x, rfl, hx, m, hm⟩ := h.known k hk'
      exact ⟨x, rfl, hx, m, by rw [lastOf_snoc, if_neg (fun e' => e (by rw [e']))]; exact hm⟩
  · rw [lastOf_snoc] at hm
    by_cases e : n = x
    · subst e
      rw [if_pos rfl] at hm
      cases hm
      exact ⟨Maps.has_put_same hD (isKey_u64 _) _, g, fun z => Maps.atKey_put_same hD (isKey_u64 _) _ z, hk⟩
    · rw [if_neg e] at hm
      have ne : Lit.int .u64 x ≠ .int .u64 n := fun e' => e (by cases e'; rfl)
      obtain ⟨h1, g', h2, h3⟩ := h.holds x m hx hm
      exact ⟨by rw [Maps.has_put_other ne]; exact h1, g', fun z => by rw [Maps.atKey_put_other ne]; exact h2 z, h3⟩

theorem reads_empty (w : World) (s : Nat) : Reads w s (.map []) [] :=
  ⟨(fun k hk => by cases hk), (fun x l _ hl => by cases hl)⟩

/-- THE STORE AT BLOCK s KEEPS G; 'refilled' holds r; its own map lies from block 'base' on. -/
def KS (base : Nat) (w : World) (s : Nat) (r : Option Nat) (G : List (Int × List Int)) : Prop :=
  base ≤ s ∧ ((StoreAt w s none r ∧ G = []) ∨ ∃ b D, base ≤ b ∧ StoreAt w s (some b) r ∧ w.ownsMap Try.prog 22 ptrElem b G.length D ∧ Reads w s D G)

theorem map_not_cells {w : World} {P : Program} {k : TypeId} {R : Value → Option (DataW Unit × List MemPlace)} {b n : Nat} {D : DataW Unit} (h : w.ownsMap P k R b n D) : ∀ cs e fr, w.heap[b]? ≠ some (.cells cs e fr) := by
  obtain ⟨es, c, hh, _⟩ := h
  intro cs e fr he
  rw [he] at hh
  cases hh

/-! ### the row of txns while it is filled -/
def Filling (wr : World) (g len : Nat) (l : List Int) (k : Nat) : Prop :=
  ∃ xs : List Value, wr.ownsRow g 82 4 (.slice (some ⟨g, 0, none⟩) len len) len xs ∧ ∀ i, i < k → xs[i * 4]? = some (.int .u64 (l.getD i 0))
theorem filling_cell {wr : World} {g len k : Nat} {l : List Int} (hk : k < len) (h : Filling wr g len l k) :
    (∃ v, wr.cell? ⟨g, k * 4, none⟩ = some v) ∧ (∃ v, wr.cell? ⟨g, k * 4 + 1, none⟩ = some v) ∧ (∃ v, wr.cell? ⟨g, k * 4 + 2, none⟩ = some v) ∧ (∃ v, wr.cell? ⟨g, k * 4 + 3, none⟩ = some v) ∧ ∀ j, wr.frozen? ⟨g, j, none⟩ = false := by
  obtain ⟨xs, ho, _⟩ := h
  have hx : xs.length = len * 4 := ho.1
  have e : ∀ j, j < len * 4 → ∃ v, wr.cell? ⟨g, j, none⟩ = some v := fun j hj => ⟨xs[j]'(by omega), by rw [ho.cellAt j hj, List.getElem?_eq_getElem (by omega)]⟩
  exact ⟨e _ (by omega), e _ (by omega), e _ (by omega), e _ (by omega), fun j => ho.frozenAt j⟩
theorem filling_step {wr : World} {g len k : Nat} {l : List Int} (hk : k < len) (h : Filling wr g len l k) (x : Int) (hx : x = l.getD k 0) (u1 u2 u3 : Value) :
    Filling ((((wr.setCell ⟨g, k * 4, none⟩ (.int .u64 x)).setCell ⟨g, k * 4 + 1, none⟩ u1).setCell ⟨g, k * 4 + 2, none⟩ u2).setCell ⟨g, k * 4 + 3, none⟩ u3) g len l (k + 1) := by
  obtain ⟨xs, ho, ht⟩ := h
  have hl : xs.length = len * 4 := ho.1
  refine ⟨_, ((((ho.stored (k * 4) (.int .u64 x)).1.stored (k * 4 + 1) u1).1.stored (k * 4 + 2) u2).1.stored (k * 4 + 3) u3).1, fun i hi => ?_⟩
  rw [List.getElem?_set_ne (by omega), List.getElem?_set_ne (by omega), List.getElem?_set_ne (by omega)]
  by_cases e : i = k
  · subst e
    rw [List.getElem?_set_self (by omega), hx]
  · rw [List.getElem?_set_ne (by omega)]
    exact ht i (by omega)
theorem filling_end {wr : World} {g len : Nat} {l : List Int} (h : Filling wr g len l len) : ∀ i, i < len → wr.cell? ⟨g, i * 4, none⟩ = some (.int .u64 (l.getD i 0)) := by
  obtain ⟨xs, ho, ht⟩ := h
  intro i hi
  rw [ho.cellAt _ (by omega)]
  exact ht i hi
theorem made_below {w w1 : World} (hg : w.grownBy w1 none) : Below w.heap.size w w1 := (Below.refl _ _).grown hg (Nat.le_refl _) (fun _ h => by cases h)
end Go.Proofs.Qxb6616935a
