/-
  ZZKeep by a contract.
-/
import Derived.Test.Qxb6616935aKeepLaws
import Derived.WalkSpells
namespace Go.Proofs.Qxb6616935a
open Go.RowKit
set_option linter.unusedVariables false

theorem info82 : (Try.prog.info? 82).map (fun i => (i.zero, i.size, i.bytes)) = some (some (.agg #[.int .u64 0, .pointer none, .slice none 0 0, .bool false]), 4, 48) := by kernel_rfl
theorem law22 : Maps.Keyed Try.prog 22 := Maps.int_keyed Try.underlying22

/-- THE END of ZZKeep's walk: from the world ahead of the map's store. -/
theorem keep_end {base : Nat} {w0 wr w9 : World} {s g b n : Nat} {D : DataW Unit} {r : Option Nat} {G : List (Int × List Int)} {node : Int} {l : List Int} (hbs : base ≤ s) (hbb : base ≤ b)
    (hS : StoreAt wr s (some b) r) (hR : Reads wr s D G) (hD : Maps.IsMap D) (hn : (Lit.int .u64 node).wf = true) (hk : KeptAt wr s g l) (hK : Keeps s w0 wr) (hB : Below base w0 wr) (hsz : base ≤ wr.heap.size)
    (hown : wr.ownsMap Try.prog 22 ptrElem b n D) (hown9 : w9.ownsMap Try.prog 22 ptrElem b (G.length + 1) (D.put (.int .u64 node) (.lit (.int .u64 g)))) (hg9 : wr.grownBy w9 (some b)) :
    KS base w9 s r (G ++ [(node, l)]) ∧ Keeps s w0 w9 ∧ Below base w0 w9 := by
  have hnc : ∀ b', some b = some b' → ∀ cs e fr, wr.heap[b']? ≠ some (.cells cs e fr) := fun b' e => by cases e; exact map_not_cells hown
  have hk9 : Keeps s wr w9 := (Keeps.refl s wr).grown hg9 hnc
  refine ⟨⟨hbs, .inr ⟨b, _, hbb, hS.grown hg9 hnc, ?_, (hR.put hD hn hk).keeps hk9⟩⟩, hK.trans hk9, hB.grown hg9 hsz (fun k e => by cases e; exact hbb)⟩
  rw [List.length_append, List.length_singleton]
  exact hown9

set_option maxRecDepth 100000 in
set_option maxHeartbeats 3200000 in
theorem keep_any (base s : Nat) (node : Int) (a : Option Addr) (len cap : Nat) (l : List Int) (r : Option Nat) (G : List (Int × List Int)) (w : World) (hl : l.length = len) (hm : len ≤ 1048576) (hG : G.length ≤ 1048576) (hn : (Lit.int .u64 node).wf = true)
    (hks : KS base w s r G) (hr : RowAt w a l) :
    Calls Try.prog 12 #[.pointer (some ⟨s, 0, none⟩), .int .u64 node, .slice a len cap] w fun e w' => e = .returned (.tuple #[]) ∧ KS base w' s r (G ++ [(node, l)]) ∧ Keeps s w w' ∧ Below base w w' := by
  obtain ⟨i0, hi, hz0, hz1, hz2⟩ := info_parts info82
  obtain ⟨hbs, hks⟩ := hks
  have hmm := @run_makeMap Try.prog
  have qT : ∀ (w : World) (r : Option Nat), (binOp .eql 74 (.map r) (.map none)).run Try.prog w = .ok (.bool r.isNone) w := fun w r => run_eql_map_nil w _ _ _ r Try.underlying74
  have HL : Hid (l.length = len) := hl
  have HR : Hid (RowAt w a l) := hr
  have HN : Hid ((Lit.int .u64 node).wf = true) := hn
  have hlt : s < w.heap.size := by
    rcases hks with ⟨h, _⟩ | ⟨_, _, _, h, _⟩
    · exact h.lt
    · exact h.lt
  have HKS : Hid ((StoreAt w s none r ∧ G = []) ∨ ∃ b D, base ≤ b ∧ StoreAt w s (some b) r ∧ w.ownsMap Try.prog 22 ptrElem b G.length D ∧ Reads w s D G) := hks
  clear hl hr hn hks
  go_enter Try.func12, Try.ntmps12
  go_wp2_with (at_make; refine wpList_make_full _ rfl _ _ 78 rfl w.heap.size 82 i0 _ 4 Try.underlying78 hi hz0 hz1 _ _ _ _ len rfl rfl rfl rfl (by rw [hz2]; omega) (by unfold maxLen; omega) (Nat.le_refl _) ?_; intro w1 hown1 hgrow1; have hB1 := made_below hgrow1; have HF : Hid (Filling w1 w.heap.size len l 0) := ⟨_, hown1, fun i h => absurd h (by omega)⟩; clear hown1 hgrow1)
  go_loopw [7, 13] (fun _ i wr => ∃ (k : Nat), k ≤ len ∧ i = .int .i64 k ∧ Filling wr w.heap.size len l k ∧ Below w.heap.size w wr ∧ w.heap.size < wr.heap.size) (fun _ i _ => len - (intOf i).toNat)
  case atStart => exact ⟨0, Nat.zero_le _, rfl, HF.out, hB1, by obtain ⟨xs, ho, _⟩ := HF.out; obtain ⟨_, h | ⟨g, cap, cur, hv, _, hh, _⟩⟩ := ho; exact absurd h.1 (by simp); simp at hv; obtain ⟨rfl, _⟩ := hv; exact heap_lt hh⟩
  case round =>
    obtain ⟨k, hk, rfl, hfill, hB, hsz⟩ := hrel
    by_cases hlt2 : k < len
    · have hkl : k < l.length := by rw [HL.out]; exact hlt2
      obtain ⟨b, off, ha, hc⟩ := HR.out (by omega)
      obtain ⟨x, hx⟩ : ∃ x, x = l.getD k 0 := ⟨_, rfl⟩
      have hcell : wr.cell? ⟨b, off + k, none⟩ = some (.int .u64 x) := by
        have := hc k hkl
        rw [hx, hB.cell (p := ⟨b, off + k, none⟩) (World.block_lt_of_cell? _ _ this)]; exact this
      subst ha
      have HX : Hid (x = l.getD k 0) := hx
      obtain ⟨⟨v0, e0⟩, ⟨v1, e1⟩, ⟨v2, e2⟩, ⟨v3, e3⟩, f0⟩ := filling_cell hlt2 hfill
      have HF2 : Hid (Filling wr w.heap.size len l k) := hfill
      clear hx hc hfill HF hB1
      go_wp2
      go_roundw
      case rel => exact ⟨k + 1, by omega, by go_num, filling_step hlt2 HF2.out x HX.out _ _ _, (((hB.setCell (Nat.le_refl _) _).setCell (Nat.le_refl _) _).setCell (Nat.le_refl _) _).setCell (Nat.le_refl _) _, by simp [World.setCell]; exact hsz⟩
      case measure => simp [intOf]; omega
    · have hge : len ≤ k := by omega
      obtain rfl : k = len := by omega
      have HE : Hid (∀ i, i < k → wr.cell? ⟨w.heap.size, i * 4, none⟩ = some (.int .u64 (l.getD i 0))) := filling_end hfill
      clear hfill HF hB1
      rcases HKS.out with ⟨hS0, hG0⟩ | ⟨b, D, hbb, hS0, hown, hrd⟩
      · have hS := hS0.below hB
        have hkc := hS.kept
        have hfz := hS.free 4870
        have hsr : s < wr.heap.size := hS.lt
        have hne : wr.heap.size ≠ s := by omega
        have es : (wr.setCell ⟨s, 4870, none⟩ (.map (some wr.heap.size))).heap.size = wr.heap.size := by simp [World.setCell]
        have HO : Hid (((wr.setCell ⟨s, 4870, none⟩ (.map (some wr.heap.size))).alloc (.map #[] 0)).ownsMap Try.prog 22 ptrElem wr.heap.size 0 (.map [])) := by
          have := World.ownsMap_made (wr.setCell ⟨s, 4870, none⟩ (.map (some wr.heap.size))) Try.prog 22 ptrElem
          rw [es] at this; exact this
        clear es
        go_wp2_with (first
          | (at_mapUpdate; refine wpList_mapUpdate_own _ rfl _ _ _ 74 rfl 22 83 law22 Try.underlying74 ptrElem wr.heap.size 0 (.map []) rfl (by exact HO.out.alloc _) (by unfold maxLen; omega) _ _ (.int .u64 node) rfl rfl (Maps.keyOf_int_mk Try.underlying22 HN.out) _ [] (ptrElem_mk _) ?_; intro w9 hown9 hgrow9))
        go_end0
        obtain rfl : G = [] := hG0
        have hk9 : KeptAt (((wr.setCell ⟨s, 4870, none⟩ (.map (some wr.heap.size))).alloc (.map #[] 0)).alloc (.cells #[.slice (some ⟨w.heap.size, 0, none⟩) k k] 85)) s (wr.heap.size + 1) l := by
          refine ⟨by omega, by rw [HL.out]; exact hm, w.heap.size, by omega, ?_, fun i hil => ?_⟩
          · rw [HL.out, World.cell?_alloc_at (hn := by simp [World.setCell])]; rfl
          · have h0 := HE.out i (by rw [← HL.out]; exact hil)
            exact (((Keeps.refl s wr).setCell 4870 _).alloc _ |>.alloc _).cell (a := ⟨w.heap.size, i * 4, none⟩) (show w.heap.size ≠ s by omega) h0
        have hB' : Below base w wr := hB.mono (by omega)
        have hall := keep_end (base := base) (w0 := w) (wr := ((wr.setCell ⟨s, 4870, none⟩ (.map (some wr.heap.size))).alloc (.map #[] 0)).alloc (.cells #[.slice (some ⟨w.heap.size, 0, none⟩) k k] 85)) (G := []) (node := node) (l := l) (r := r) hbs (by omega)
          (((hS.setKept (some wr.heap.size)).alloc _).alloc _) (reads_empty _ _) Maps.isMap_empty HN.out hk9 (((Keeps.below hB).setCell 4870 _).alloc _ |>.alloc _)
          (((hB'.setCell (p := ⟨s, 4870, none⟩) hbs _).alloc (by simp [World.setCell]; omega) _).alloc (by simp [World.setCell]; omega) _) (by simp [World.setCell]; omega) (HO.out.alloc _) hown9 hgrow9
        exact ⟨rfl, hall.1, hall.2.1, hall.2.2⟩
      · have hS := hS0.below hB
        have hkc := hS.kept
        have hsr : s < wr.heap.size := hS.lt
        have hownr : wr.ownsMap Try.prog 22 ptrElem b G.length D := by
          obtain ⟨es, c, hh, hr'⟩ := hown
          exact ⟨es, c, (hB.block b (heap_lt hh)).trans hh, hr'⟩
        have HO : Hid (wr.ownsMap Try.prog 22 ptrElem b G.length D) := hownr
        clear hown hownr
        go_wp2_with (first
          | (at_mapUpdate; refine wpList_mapUpdate_own _ rfl _ _ _ 74 rfl 22 83 law22 Try.underlying74 ptrElem b G.length D rfl (by exact HO.out.alloc _) (by unfold maxLen; omega) _ _ (.int .u64 node) rfl rfl (Maps.keyOf_int_mk Try.underlying22 HN.out) _ [] (ptrElem_mk _) ?_; intro w9 hown9 hgrow9))
        go_end0
        have hk9 : KeptAt (wr.alloc (.cells #[.slice (some ⟨w.heap.size, 0, none⟩) k k] 85)) s wr.heap.size l := by
          refine ⟨by omega, by rw [HL.out]; exact hm, w.heap.size, by omega, ?_, fun i hil => ?_⟩
          · rw [HL.out, World.cell?_alloc_at (hn := rfl)]; rfl
          · have h0 := HE.out i (by rw [← HL.out]; exact hil)
            exact ((Keeps.refl s wr).alloc _).cell (a := ⟨w.heap.size, i * 4, none⟩) (show w.heap.size ≠ s by omega) h0
        have hB' : Below base w wr := hB.mono (by omega)
        have hall := keep_end (base := base) (w0 := w) (wr := wr.alloc (.cells #[.slice (some ⟨w.heap.size, 0, none⟩) k k] 85)) (G := G) (node := node) (l := l) (r := r) hbs hbb
          (hS.alloc _) (hrd.keeps ((Keeps.below hB).alloc _)) HO.out.isMap HN.out hk9 ((Keeps.below hB).alloc _)
          (hB'.alloc (by omega) _) (by simp; omega) (HO.out.alloc _) hown9 hgrow9
        exact ⟨rfl, hall.1, hall.2.1, hall.2.2⟩
end Go.Proofs.Qxb6616935a
