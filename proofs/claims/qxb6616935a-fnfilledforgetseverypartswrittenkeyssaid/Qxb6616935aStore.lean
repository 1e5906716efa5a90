/-
  THE STORE AS 'new' LAYS IT: one block of 4874 cells; of them the laws look at: each part's lock word and 'written', the store's own lock word, 'kept' and 'refilled'.
-/
import Derived.Test.Qxb6616935aRows
import Derived.WalkKit
namespace Go.Proofs.Qxb6616935a
open Go.RowKit
set_option linter.unusedVariables false

def isMu (v : Option Value) : Bool := match v with | some (.int .i32 n) => n == 0 | _ => false
def isNoMap (v : Option Value) : Bool := match v with | some (.map none) => true | _ => false
/-- The parts' cells, 19 each: the lock's word first, 'written' at 14; behind them the store's own lock word, 'kept' at 2, 'refilled' at 5. -/
def okParts : Nat → List Value → Bool
  | 0, l => isMu l.head? && isNoMap (l.drop 2).head? && isNoMap (l.drop 5).head? && (l.length == 6)
  | n + 1, l => isMu l.head? && isNoMap (l.drop 14).head? && okParts n (l.drop 19)

theorem isMu_eq {v : Option Value} (h : isMu v = true) : v = some (.int .i32 0) := by
  unfold isMu at h
  split at h
  · simp at h; rw [h]
  · cases h
theorem isNoMap_eq {v : Option Value} (h : isNoMap v = true) : v = some (.map none) := by
  unfold isNoMap at h
  split at h
  · rfl
  · cases h

theorem okParts_part : ∀ (n : Nat) (l : List Value), okParts n l = true → ∀ i, i < n → l[i * 19]? = some (.int .i32 0) ∧ l[i * 19 + 14]? = some (.map none)
  | 0, _, _, i, hi => absurd hi (by omega)
  | n + 1, l, h, i, hi => by
    simp only [okParts, Bool.and_eq_true] at h
    obtain ⟨⟨h1, h2⟩, h3⟩ := h
    match i, hi with
    | 0, _ =>
      have e1 := isMu_eq h1
      have e2 := isNoMap_eq h2
      rw [List.head?_eq_getElem?] at e1 e2
      rw [List.getElem?_drop] at e2
      exact ⟨by simpa using e1, by simpa using e2⟩
    | j + 1, hj =>
      have r := okParts_part n (l.drop 19) h3 j (by omega)
      rw [List.getElem?_drop, List.getElem?_drop] at r
      refine ⟨?_, ?_⟩
      · rw [show (j + 1) * 19 = 19 + j * 19 by omega]; exact r.1
      · rw [show (j + 1) * 19 + 14 = 19 + (j * 19 + 14) by omega]; exact r.2

theorem okParts_tail : ∀ (n : Nat) (l : List Value), okParts n l = true → l[n * 19]? = some (.int .i32 0) ∧ l[n * 19 + 2]? = some (.map none) ∧ l[n * 19 + 5]? = some (.map none)
  | 0, l, h => by
    simp only [okParts, Bool.and_eq_true] at h
    obtain ⟨⟨⟨h1, h2⟩, h3⟩, _⟩ := h
    have e1 := isMu_eq h1
    have e2 := isNoMap_eq h2
    have e3 := isNoMap_eq h3
    rw [List.head?_eq_getElem?] at e1 e2 e3
    rw [List.getElem?_drop] at e2 e3
    exact ⟨by simpa using e1, by simpa using e2, by simpa using e3⟩
  | n + 1, l, h => by
    simp only [okParts, Bool.and_eq_true] at h
    have r := okParts_tail n (l.drop 19) h.2
    simp only [List.getElem?_drop] at r
    refine ⟨?_, ?_, ?_⟩
    · rw [show (n + 1) * 19 = 19 + n * 19 by omega]; exact r.1
    · rw [show (n + 1) * 19 + 2 = 19 + (n * 19 + 2) by omega]; exact r.2.1
    · rw [show (n + 1) * 19 + 5 = 19 + (n * 19 + 5) by omega]; exact r.2.2

theorem okStore : ((Try.prog.info? 77).bind (·.zero)).map (fun z => okParts 256 (z.cells.toList.drop 4)) = some true := by kernel_rfl

theorem build_store : ∃ cs : Array Value, (∀ w, (Instr.build 77 #[]).run Try.prog w = .ok (.agg cs) w) ∧ okParts 256 (cs.toList.drop 4) = true := by
  refine ⟨(((Try.prog.info? 77).bind (·.zero)).getD undef).cells, fun w => by kernel_rfl, by kernel_rfl⟩

theorem box_store (cs : Array Value) (w : World) : (Instr.box 77 (.agg cs)).run Try.prog w = .ok (.pointer (some ⟨w.heap.size, 0, none⟩)) (w.alloc (.cells cs 77)) := by kernel_rfl

/-- WHAT THE LAWS ASK OF THE STORE AT BLOCK s: its lock's word is m, each part's lock is free; 'kept' and 'refilled' hold what is said; no cell frozen. -/
structure StoreM (w : World) (s : Nat) (m : Int) (kept refilled : Option Nat) : Prop where
  mu : w.cell? ⟨s, 4868, none⟩ = some (.int .i32 m)
  kept : w.cell? ⟨s, 4870, none⟩ = some (.map kept)
  refilled : w.cell? ⟨s, 4873, none⟩ = some (.map refilled)
  part : ∀ i, i < 256 → w.cell? ⟨s, 4 + i * 19, none⟩ = some (.int .i32 0)
  written : ∀ i, i < 256 → ∃ r, w.cell? ⟨s, 4 + i * 19 + 14, none⟩ = some (.map r)
  free : ∀ j, w.frozen? ⟨s, j, none⟩ = false
/-- .. its lock free. -/
abbrev StoreAt (w : World) (s : Nat) (kept refilled : Option Nat) : Prop := StoreM w s 0 kept refilled

theorem storeAt_new (w : World) (cs : Array Value) (h : okParts 256 (cs.toList.drop 4) = true) : StoreAt (w.alloc (.cells cs 77)) w.heap.size none none := by
  have hc : ∀ j, (w.alloc (.cells cs 77)).cell? ⟨w.heap.size, j, none⟩ = cs.toList[j]? := fun j => by
    rw [World.cell?_alloc_at (hn := rfl)]; simp
  have ht := okParts_tail 256 _ h
  simp only [List.getElem?_drop] at ht
  refine ⟨(hc _).trans ht.1, (hc _).trans ht.2.1, (hc _).trans ht.2.2, fun i hi => ?_, fun i hi => ⟨none, ?_⟩, fun j => by simp [go_sem]⟩
  · have := (okParts_part 256 _ h i hi).1
    rw [List.getElem?_drop] at this
    exact (hc _).trans this
  · have := (okParts_part 256 _ h i hi).2
    rw [List.getElem?_drop, ← Nat.add_assoc] at this
    exact (hc _).trans this

theorem wpList_build_store {w : World} {ops : Array Oper} {rest : List Oper} {o : Oper} {a : Act} {Q : Exit → Act → World → Prop} (hg : o.guard = none) (hop : o.op = Op.build 77 #[]) (cs : Array Value)
    (hrun : ∀ w, (Instr.build 77 #[]).run Try.prog w = .ok (.agg cs) w) (hK : wpList Try.prog ops Q rest (a.put o.dst (.agg cs)) w) : wpList Try.prog ops Q (o :: rest) a w := by
  refine wpList_plain hg fun K' hK' => ?_
  unfold Oper.wp
  simp [execOp, hop, hrun, Result.andThen]
  exact hK' _ _ hK
theorem wpList_box_store {w : World} {ops : Array Oper} {rest : List Oper} {o : Oper} {a : Act} {Q : Exit → Act → World → Prop} (hg : o.guard = none) (x : Operand) (hop : o.op = Op.box 77 x) (cs : Array Value)
    (hx : a.eval x = .agg cs) (hK : wpList Try.prog ops Q rest (a.put o.dst (.pointer (some ⟨w.heap.size, 0, none⟩))) (w.alloc (.cells cs 77))) : wpList Try.prog ops Q (o :: rest) a w := by
  refine wpList_plain hg fun K' hK' => ?_
  unfold Oper.wp
  simp [execOp, hop, hx, box_store, Result.andThen]
  exact hK' _ _ hK

theorem newStore_any (w : World) : Calls Try.prog 11 #[] w fun e w' => e = .returned (.pointer (some ⟨w.heap.size, 0, none⟩)) ∧ Below w.heap.size w w' ∧ StoreAt w' w.heap.size none none ∧ w'.heap.size = w.heap.size + 1 := by
  obtain ⟨cs, hb, hok⟩ := build_store
  have HB : Hid (∀ w, (Instr.build 77 #[]).run Try.prog w = .ok (.agg cs) w) := hb
  have HK : Hid (okParts 256 (cs.toList.drop 4) = true) := hok
  clear hb hok
  go_enter Try.func11, Try.ntmps11
  go_wp2_with (first
    | (refine wpList_build_store rfl rfl cs HB.out ?_)
    | (refine wpList_box_store rfl (.tmp 1) rfl cs rfl ?_))
  go_ret
  exact ⟨rfl, (Below.refl _ _).alloc (Nat.le_refl _) _, storeAt_new w cs HK.out, by simp⟩
end Go.Proofs.Qxb6616935a
