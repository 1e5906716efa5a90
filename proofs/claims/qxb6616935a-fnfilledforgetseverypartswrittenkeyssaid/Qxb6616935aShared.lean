/-
  WHAT BOTH FnFilledForgets' WALK AND ITS CALLEES SHARE: the store's state carried over steps; rows of strings.
-/
import Derived.Test.Qxb6616935aFilled
import Derived.Test.Qxb6616935aLawMath
import Derived.WalkSpells
namespace Go.Proofs.Qxb6616935a
open Go.RowKit
set_option linter.unusedVariables false

theorem zero22 (w : World) : (zeroValue 22).run Try.prog w = .ok (.int .u64 0) w := by kernel_rfl

theorem KS.same {base s : Nat} {r : Option Nat} {G : List (Int × List Int)} {w w' : World} (h : KS base w s r G) (e : w'.heap = w.heap) : KS base w' s r G := by
  obtain ⟨hbs, h⟩ := h
  have hk : Keeps s w w' := fun j cs t fr _ hh => by rw [e]; exact hh
  refine ⟨hbs, ?_⟩
  rcases h with ⟨h, hG⟩ | ⟨b, D, hbb, h, ⟨es, c, ho⟩, hr⟩
  · exact .inl ⟨h.of_block (by rw [e]), hG⟩
  · exact .inr ⟨b, D, hbb, h.of_block (by rw [e]), ⟨es, c, by rw [e]; exact ho⟩, hr.keeps hk⟩
theorem KS.store {base s : Nat} {r : Option Nat} {G : List (Int × List Int)} {w : World} (h : KS base w s r G) : ∃ k, StoreAt w s k r := by
  rcases h.2 with ⟨h, _⟩ | ⟨b, D, _, h, _⟩
  · exact ⟨_, h⟩
  · exact ⟨_, h⟩
theorem KS.grown {base s : Nat} {r : Option Nat} {G : List (Int × List Int)} {w w' : World} {row : Option Nat} (h : KS base w s r G) (hg : w.grownBy w' row) (hr : ∀ b, row = some b → ∀ cs e fr, w.heap[b]? ≠ some (.cells cs e fr))
    (hm : ∀ b, row = some b → w.cell? ⟨s, 4870, none⟩ ≠ some (.map (some b))) : KS base w' s r G ∧ w'.cell? ⟨s, 4870, none⟩ = w.cell? ⟨s, 4870, none⟩ := by
  obtain ⟨k, hst⟩ := h.store
  have hc : w'.cell? ⟨s, 4870, none⟩ = w.cell? ⟨s, 4870, none⟩ := by rw [(hst.grown hg hr).kept, hst.kept]
  obtain ⟨hbs, h⟩ := h
  refine ⟨⟨hbs, ?_⟩, hc⟩
  rcases h with ⟨h, hG⟩ | ⟨b, D, hbb, h, ho, hrd⟩
  · exact .inl ⟨h.grown hg hr, hG⟩
  · exact .inr ⟨b, D, hbb, h.grown hg hr, ho.kept hg (fun e => hm b e.symm h.kept), hrd.keeps ((Keeps.refl s w).grown hg hr)⟩
theorem KS.fresh {base s : Nat} {r : Option Nat} {G : List (Int × List Int)} {w : World} (h : KS base w s r G) : w.cell? ⟨s, 4870, none⟩ ≠ some (.map (some w.heap.size)) := by
  rcases h.2 with ⟨h, _⟩ | ⟨b, D, _, h, ho, _⟩
  · rw [h.kept]; simp
  · rw [h.kept]
    intro e
    have := ho.lt
    simp at e
    omega
theorem RowAt.below {w w' : World} {a : Option Addr} {l : List Int} (hb : Below w.heap.size w w') (h : RowAt w a l) : RowAt w' a l := by
  intro hl
  obtain ⟨b, off, rfl, hc⟩ := h hl
  exact ⟨b, off, rfl, fun i hi => (hb.cell (p := ⟨b, off + i, none⟩) (World.block_lt_of_cell? _ _ (hc i hi))).trans (hc i hi)⟩


/-- A slice of rows of numbers, each its own length. -/
def Rows2 (w : World) (a : Option Addr) (L : List (List Int)) : Prop :=
  0 < L.length → ∃ b off, a = some ⟨b, off, none⟩ ∧ ∀ i, i < L.length → ∃ ai ci, w.cell? ⟨b, off + i, none⟩ = some (.slice ai (L.getD i []).length ci) ∧ RowAt w ai (L.getD i [])

/-- The slice at 'a' reads as the list l of bytes. -/
def RowB (w : World) (a : Option Addr) (l : List Int) : Prop :=
  0 < l.length → ∃ b off, a = some ⟨b, off, none⟩ ∧ ∀ i, i < l.length → w.cell? ⟨b, off + i, none⟩ = some (.int .u8 (l.getD i 0))
/-- The slice at 'a' reads as the list l of strings. -/
def RowS (w : World) (a : Option Addr) (l : List ByteArray) : Prop :=
  0 < l.length → ∃ b off, a = some ⟨b, off, none⟩ ∧ ∀ i, i < l.length → w.cell? ⟨b, off + i, none⟩ = some (.string (l.getD i ByteArray.empty)) ∧ (l.getD i ByteArray.empty).size ≤ maxLen
/-- A slice of rows of strings. -/
def Rows2S (w : World) (a : Option Addr) (L : List (List ByteArray)) : Prop :=
  0 < L.length → ∃ b off, a = some ⟨b, off, none⟩ ∧ ∀ i, i < L.length → ∃ ai ci, w.cell? ⟨b, off + i, none⟩ = some (.slice ai (L.getD i []).length ci) ∧ RowS w ai (L.getD i [])

theorem run_makeMap_hint {t k e : TypeId} (h : Try.prog.underlying t = some (.map k e)) (q : IntKind) (n : Int) (w : World) : (Instr.makeMap t (some (.int q n))).run Try.prog w = .ok (.map (some w.heap.size)) (w.alloc (.map #[] 0)) := by
  simp [Instr.makeMap, run_underlying h, asInt, asIntOf]

/-- A part's 'written' is set. -/
theorem StoreM.setWritten {w : World} {s : Nat} {m : Int} {k r : Option Nat} (h : StoreM w s m k r) (i : Nat) (hi : i < 256) (q : Option Nat) : StoreM (w.setCell ⟨s, 4 + i * 19 + 14, none⟩ (.map q)) s m k r := by
  refine ⟨?_, ?_, ?_, fun j hj => ?_, fun j hj => ?_, fun j => by rw [World.frozen?_setCell]; exact h.free j⟩
  · rw [cell_set w s _ _ _ h.mu, if_neg (by omega)]
  · rw [cell_set w s _ _ _ h.kept, if_neg (by omega)]
  · rw [cell_set w s _ _ _ h.refilled, if_neg (by omega)]
  · rw [cell_set w s _ _ _ (h.part j hj), if_neg (by omega)]
  · obtain ⟨p, hp⟩ := h.written j hj
    rw [cell_set w s _ _ _ hp]
    by_cases e : i = j
    · rw [if_pos (by omega)]; exact ⟨q, rfl⟩
    · rw [if_neg (by omega)]; exact ⟨p, rfl⟩

theorem setWritten_any {base s : Nat} {r : Option Nat} {G : List (Int × List Int)} (i : Nat) (m : Option Nat) (w : World) (hi : i < 256) (hks : KS base w s r G) :
    Calls Try.prog 17 #[.pointer (some ⟨s, 0, none⟩), .int .i64 i, .map m] w fun e w' => e = .returned (.tuple #[]) ∧ KS base w' s r G ∧ w.grownBy w' (some s) := by
  obtain ⟨hbs, hks⟩ := hks
  obtain ⟨q, hwr⟩ : ∃ q, w.cell? ⟨s, 4 + i * 19 + 14, none⟩ = some (.map q) := by
    rcases hks with ⟨h, _⟩ | ⟨_, _, _, h, _⟩ <;> exact h.written i hi
  have hfz : w.frozen? ⟨s, 4 + i * 19 + 14, none⟩ = false := by
    rcases hks with ⟨h, _⟩ | ⟨_, _, _, h, _⟩ <;> exact h.free _
  have HKS : Hid ((StoreAt w s none r ∧ G = []) ∨ ∃ b D, base ≤ b ∧ StoreAt w s (some b) r ∧ w.ownsMap Try.prog 22 ptrElem b G.length D ∧ Reads w s D G) := hks
  clear hks
  go_enter Try.func17, Try.ntmps17
  go_wp2
  go_end0
  have hg : w.grownBy (w.setCell ⟨s, 4 + i * 19 + 14, none⟩ (.map m)) (some s) := grown_set (World.grownBy.refl _ _) _
  refine ⟨rfl, ⟨hbs, ?_⟩, hg⟩
  rcases HKS.out with ⟨h, hG⟩ | ⟨b, D, hbb, h, ho, hr⟩
  · exact .inl ⟨h.setWritten i hi m, hG⟩
  · obtain ⟨cs, e, fr, hsc⟩ := cells_of_cell h.mu
    exact .inr ⟨b, D, hbb, h.setWritten i hi m, ho.kept hg (fun e' => by cases e'; exact map_not_cells ho _ _ _ hsc), hr.keeps (Keeps.store (Keeps.refl s w) hg)⟩

theorem written_any {s : Nat} (i : Nat) (q : Option Nat) (w : World) (hi : i < 256) (hwr : w.cell? ⟨s, 4 + i * 19 + 14, none⟩ = some (.map q)) :
    Calls Try.prog 18 #[.pointer (some ⟨s, 0, none⟩), .int .i64 i] w fun e w' => e = .returned (.map q) ∧ w' = w := by
  go_enter Try.func18, Try.ntmps18
  go_wp2
  go_ret
  exact ⟨rfl, rfl⟩

theorem refilled_any {base s : Nat} {r : Option Nat} {G : List (Int × List Int)} (w : World) (hks : KS base w s r G) :
    Calls Try.prog 15 #[.pointer (some ⟨s, 0, none⟩)] w fun e w' => e = .returned (.map r) ∧ w' = w := by
  have hrf : w.cell? ⟨s, 4873, none⟩ = some (.map r) := by
    rcases hks.2 with ⟨h, _⟩ | ⟨_, _, _, h, _⟩ <;> exact h.refilled
  clear hks
  go_enter Try.func15, Try.ntmps15
  go_wp2
  go_ret
  exact ⟨rfl, rfl⟩

/-- It returns true or false. -/
def AnyBool (e : Ending) : Prop := ∃ bo, e = .returned (.bool bo)
theorem anyBool (b : Bool) : AnyBool (.returned (.bool b)) := ⟨b, rfl⟩

/-- Two readings of one G are one. -/
theorem ref_same {D1 D2 : DataW Unit} {G : List (Int × List Int)} (c1 : Maps.Canon D1) (c2 : Maps.Canon D2) (h1 : RefPart D1 (fun _ => false) G) (h2 : RefPart D2 (fun _ => false) G) : D1 = D2 := by
  have key : ∀ {A B : DataW Unit}, RefPart A (fun _ => false) G → RefPart B (fun _ => false) G → ∀ k, Maps.has A k = true → Maps.has B k = true ∧ ∀ z, A.atKey k z = B.atKey k z := by
    intro A B hA hB k hk
    obtain ⟨x, l, rfl, hx, hl, hp, _⟩ := hA.known k hk
    obtain ⟨_, a⟩ := hA.holds x l hx hl hp rfl
    obtain ⟨b, b'⟩ := hB.holds x l hx hl hp rfl
    exact ⟨b, fun z => by rw [a, b']⟩
  refine Maps.ext c1 c2 (fun k => ?_) (fun k z hk => (key h1 h2 k hk).2 z)
  cases ha : Maps.has D1 k with
  | true => exact (key h1 h2 k ha).1.symm
  | false =>
    cases hb : Maps.has D2 k with
    | false => rfl
    | true => rw [(key h2 h1 k hb).1] at ha; cases ha
end Go.Proofs.Qxb6616935a
