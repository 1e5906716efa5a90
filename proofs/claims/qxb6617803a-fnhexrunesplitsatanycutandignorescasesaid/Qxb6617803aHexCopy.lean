/-
  'x = copy of x': small laws on worlds: a row that 'make' has laid, and what 'copy' leaves in it.
-/
import Derived.Test.Qxb6617803aHexCalls
import Derived.Laws.CopyOwn
namespace Go.Proofs.Qxb6617803a
open Go.RowKit

theorem made_cur {w1 : World} {base e g n cap m : Nat} {xs : List Value} (h : w1.ownsRow base e 1 (.slice (some ⟨g, 0, none⟩) m cap) n xs) :
    ∃ cur : List Value, w1.heap[g]? = some (.cells cur.toArray e (0, 0)) ∧ cur.length = cap := by
  obtain ⟨_, h | ⟨g', cap', cur, hv, _, hh, _, _, hs, _⟩⟩ := h
  · exact absurd h.1 (by simp)
  · simp at hv
    obtain ⟨rfl, _, rfl⟩ := hv
    exact ⟨cur.toList, by simpa using hh, by simpa using hs⟩

theorem rowAt_block {w : World} {g e : Nat} {l : List Int} {fr : Nat × Nat} (h : w.heap[g]? = some (.cells (l.map (Value.int .u8)).toArray e fr)) : RowAt w (some ⟨g, 0, none⟩) l := by
  intro _
  refine ⟨g, 0, rfl, fun i hi => ?_⟩
  simp [World.cell?, h, List.getElem?_eq_getElem hi]

theorem splice_all {α : Type} (cur cs : List α) (h : cur.length = cs.length) : splice cur 0 cs = cs := by
  simp [splice, ← h]

theorem rowAt_below {w w' : World} {B : Nat} {a : Option Addr} {l : List Int} (hb : Below B w w') (ha : ∀ x, a = some x → x.block < B) (h : RowAt w a l) : RowAt w' a l := by
  intro hl
  obtain ⟨b, off, rfl, hc⟩ := h hl
  exact ⟨b, off, rfl, fun i hi => (hb.cell (p := ⟨b, off + i, none⟩) (ha ⟨b, off, none⟩ rfl)).trans (hc i hi)⟩

/-- What 'wpList_copy_splice' asks of the source. -/
theorem copy_src {w w1 : World} {B g : Nat} {a : Option Addr} {l : List Int} (hb : Below B w w1) (ha : 0 < l.length → ∀ x, a = some x → x.block < B) (h : RowAt w a l) :
    0 < (l.map (Value.int .u8)).length → (some (⟨g, 0, none⟩ : Addr)) = some ⟨g, 0, none⟩ ∧ ∃ ad, a = some ad ∧ ∀ j v, (l.map (Value.int .u8))[j]? = some v → w1.cell? (ad.add j) = some v := by
  intro hl
  have hl' : 0 < l.length := by simpa using hl
  obtain ⟨b, off, rfl, hc⟩ := h hl'
  refine ⟨rfl, _, rfl, fun j v hj => ?_⟩
  have hj' : j < l.length := by
    have := (List.getElem?_eq_some_iff.1 hj).1; simpa using this
  have e : (⟨b, off, none⟩ : Addr).add j = ⟨b, off + j, none⟩ := by simp [Addr.add]
  rw [e, hb.cell (p := ⟨b, off + j, none⟩) (ha hl' ⟨b, off, none⟩ rfl), hc j hj']
  rw [List.getElem?_map, List.getElem?_eq_getElem hj'] at hj
  simp at hj
  rw [← hj]
  simp [List.getElem?_eq_getElem hj']

theorem ints_one (l : List Int) : ∀ v ∈ l.map (Value.int .u8), v.oneCell' = true := by
  intro v hv
  obtain ⟨x, _, rfl⟩ := List.mem_map.1 hv
  rfl

theorem lt_of_row {w : World} {a : Option Addr} {l : List Int} (h : RowAt w a l) (hl : 0 < l.length) : ∀ x, a = some x → x.block < w.heap.size := by
  intro x hx
  obtain ⟨b, off, rfl, hc⟩ := h hl
  cases hx
  exact World.block_lt_of_cell? _ _ (hc 0 hl)
end Go.Proofs.Qxb6617803a
