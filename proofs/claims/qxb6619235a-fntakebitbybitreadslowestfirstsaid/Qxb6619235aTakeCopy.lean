/-
  'x = copy of x': small laws on worlds: a row that 'make' has laid, and what 'copy' leaves in it.
-/
import Derived.Test.Qxb6619235aTakeCalls
import Derived.Laws.CopyOwn
namespace Go.Proofs.Qxb6619235a
open Go.RowKit

/-- The slice at 'a' reads as the list l of bytes. -/
def RowAt (w : World) (a : Option Addr) (l : List Int) : Prop :=
  0 < l.length → ∃ b off, a = some ⟨b, off, none⟩ ∧ ∀ i, i < l.length → w.cell? ⟨b, off + i, none⟩ = some (.int .u8 (l.getD i 0))

theorem made_below {w w1 : World} (hg : w.grownBy w1 none) : Below w.heap.size w w1 := (Below.refl _ _).grown hg (Nat.le_refl _) (fun _ h => by cases h)

theorem made_cur {w1 : World} {base e g n cap m : Nat} {xs : List Value} (h : w1.ownsRow base e 1 (.slice (some ⟨g, 0, none⟩) m cap) n xs) :
    ∃ cur : List Value, w1.heap[g]? = some (.cells cur.toArray e (0, 0)) ∧ cur.length = cap := by
  obtain ⟨_, h | ⟨g', cap', cur, hv, _, hh, _, _, hs, _⟩⟩ := h
  · exact absurd h.1 (by simp)
  · simp at hv
    obtain ⟨rfl, _, rfl⟩ := hv
    exact ⟨cur.toList, by simpa using hh, by simpa using hs⟩

/-- What 'wpList_copy_splice' asks of the source. -/
theorem copy_src {w w1 : World} {B g : Nat} {a : Option Addr} {l : List Int} (hb : Below B w w1) (ha : 0 < l.length → ∀ x, a = some x → x.block < B) (h : RowAt w a l) :
    0 < (l.map (Value.int .u8)).length → (some (⟨g, 0, none⟩ : Addr)) = some ⟨g, 0, none⟩ ∧ ∃ ad, a = some ad ∧ ∀ j v, (l.map (Value.int .u8))[j]? = some v → w1.cell? (ad.add j) = some v := by
  intro hl
  have hl' : 0 < l.length := by simpa using hl
  obtain ⟨b, off, rfl, hc⟩ := h hl'
  refine ⟨rfl, _, rfl, fun j v hj => ?_⟩
  have hj' : j < l.length := by
    have := (List.getElem?_eq_some_iff.1 hj).1; simpa using this
  have e : (⟨b, off, none⟩ : Addr).add j = ⟨b, off + j, none⟩ := by simp [Addr.add]
  rw [e, hb.cell (p := ⟨b, off + j, none⟩) (ha hl' ⟨b, off, none⟩ rfl), hc j hj']
  rw [List.getElem?_map, List.getElem?_eq_getElem hj'] at hj
  simp at hj
  rw [← hj]
  simp [List.getElem?_eq_getElem hj']

theorem ints_one (l : List Int) : ∀ v ∈ l.map (Value.int .u8), v.oneCell' = true := by
  intro v hv
  obtain ⟨x, _, rfl⟩ := List.mem_map.1 hv
  rfl

theorem lt_of_row {w : World} {a : Option Addr} {l : List Int} (h : RowAt w a l) (hl : 0 < l.length) : ∀ x, a = some x → x.block < w.heap.size := by
  intro x hx
  obtain ⟨b, off, rfl, hc⟩ := h hl
  cases hx
  exact World.block_lt_of_cell? _ _ (hc 0 hl)

/-- A slice that came in, as the walks take it (its cells as 'IsRow' of the shells tells them). -/
theorem taken {w : World} {a : Option Addr} {len cap : Nat} {zs : List Int}
    (h : (a = none ∧ len = 0 ∧ cap = 0 ∧ zs = []) ∨ ∃ x, a = some x ∧ len ≤ cap ∧ cap ≤ maxLen ∧ zs.length = cap ∧ (∀ i, i < zs.length → w.cell? (x.add i) = some (.int .u8 (zs.getD i 0))) ∧ ∀ n ∈ zs, (Lit.int .u8 n).wf = true) :
    (zs.take len).length = len ∧ len ≤ maxLen ∧ RowAt w a (zs.take len) := by
  rcases h with ⟨rfl, rfl, rfl, rfl⟩ | ⟨x, rfl, hlc, hcm, hz, hcell, hwf⟩
  · exact ⟨rfl, by unfold maxLen; omega, fun h => absurd h (by simp)⟩
  · refine ⟨by rw [List.length_take]; omega, by omega, ?_⟩
    intro hl
    have h0 : 0 < len := by rw [List.length_take] at hl; omega
    obtain ⟨b, off, spot⟩ := x
    have hspot : spot = none := by simpa [Addr.add] using World.cell?_spot (hcell 0 (by omega))
    subst hspot
    refine ⟨b, off, rfl, fun i hi => ?_⟩
    have hi' : i < len := by rw [List.length_take] at hi; omega
    have h := hcell i (by omega)
    rw [show (⟨b, off, none⟩ : Addr).add i = ⟨b, off + i, none⟩ by simp [Addr.add]] at h
    simpa [List.getElem?_take, hi'] using h
end Go.Proofs.Qxb6619235a
