/-
  (*Store).Filled by a contract.
-/
import Derived.Test.Qxb6616935aFillLaws
import Derived.Test.Qxb6616935aLocks
import Derived.Deep.RegionHeld3
import Derived.Deep.DrawnRows
import Derived.Defers
import Derived.Laws.IdiomRangeMap
import Derived.OpenShut
namespace Go.Proofs.Qxb6616935a
open Go.RowKit Go.MuLone
set_option linter.unusedVariables false

/-- The range over 'kept' under way. -/
def FR (base s b r0 rb : Nat) (G : List (Int × List Int)) (D : DataW Unit) (w wr : World) : Prop :=
  ∃ left cnt n Dr, wr.ranges Try.prog 22 ptrElem b r0 G.length D left cnt ∧ n + cnt ≤ G.length ∧ wr.ownsMap Try.prog 22 (plainElem Try.prog 22) rb n Dr ∧ RefPart Dr left G ∧ StoreM wr s 1 (some b) (some rb) ∧ Reads wr s D G ∧ Keeps s w wr ∧ Below base w wr ∧ base ≤ wr.heap.size ∧ w.grownBy wr (some s)

theorem grown_set {s off : Nat} {a w : World} (h : a.grownBy w (some s)) (v : Value) : a.grownBy (w.setCell ⟨s, off, none⟩ v) (some s) :=
  ⟨h.os, h.tape, h.output, by simp [World.setCell]; exact h.size, fun i hi hne => by rw [Below.heap_setCell w ⟨s, off, none⟩ v i (fun e => hne (by rw [e]))]; exact h.block i hi hne⟩
theorem Keeps.store {s : Nat} {a w w' : World} (h : Keeps s a w) (hg : w.grownBy w' (some s)) : Keeps s a w' :=
  h.trans fun j cs e fr hj hh => by rw [hg.block j (heap_lt hh) (fun e' => hj (by cases e'; rfl))]; exact hh

/-- The parts' loop under way: the first i have forgotten what was written. -/
def PR (s rb i : Nat) (kb : Option Nat) (wr wz : World) : Prop :=
  StoreM wz s 1 kb (some rb) ∧ (∀ j, j < i → wz.cell? ⟨s, 4 + j * 19 + 14, none⟩ = some (.map none)) ∧ wr.grownBy wz (some s)

theorem PR.step {s rb i : Nat} {kb : Option Nat} {wr wz : World} (h : PR s rb i kb wr wz) (hi : i < 256) :
    PR s rb (i + 1) kb wr (((wz.setCell ⟨s, 4 + i * 19, none⟩ (.int .i32 1)).setCell ⟨s, 4 + i * 19 + 14, none⟩ (.map none)).setCell ⟨s, 4 + i * 19, none⟩ (.int .i32 0)) := by
  obtain ⟨h1, h2, h3⟩ := h
  have r := h1.partRound i hi
  exact ⟨r.1, fun j hj => r.2 j (by omega) (by by_cases e : j = i; exact .inl e; exact .inr (h2 j (by omega))), grown_set (grown_set (grown_set h3 _) _) _⟩

/-- THE END of Filled: the store's own lock is let go. -/
theorem filled_end {base s rb : Nat} {kb : Option Nat} {G : List (Int × List Int)} {Dr : DataW Unit} {w wr wz : World} (hbs : base ≤ s) (hP : PR s rb 256 kb wr wz) (hor : wr.ownsMap Try.prog 22 (plainElem Try.prog 22) rb G.length Dr) (href : RefPart Dr (fun _ => false) G)
    (hK : Keeps s w wr) (hB : Below base w wr) (hsz : base ≤ wr.heap.size) (hS0 : StoreM wr s 1 kb (some rb)) (hGW : w.grownBy wr (some s)) (hkb : (kb = none ∧ G = []) ∨ ∃ b D, base ≤ b ∧ kb = some b ∧ wr.ownsMap Try.prog 22 ptrElem b G.length D ∧ Reads wr s D G) :
    ∃ rb' Dr', KS base (wz.setCell ⟨s, 4868, none⟩ (.int .i32 0)) s (some rb') G ∧ (wz.setCell ⟨s, 4868, none⟩ (.int .i32 0)).ownsMap Try.prog 22 (plainElem Try.prog 22) rb' G.length Dr' ∧ RefPart Dr' (fun _ => false) G ∧
      (∀ i, i < 256 → (wz.setCell ⟨s, 4868, none⟩ (.int .i32 0)).cell? ⟨s, 4 + i * 19 + 14, none⟩ = some (.map none)) ∧ Keeps s w (wz.setCell ⟨s, 4868, none⟩ (.int .i32 0)) ∧ Below base w (wz.setCell ⟨s, 4868, none⟩ (.int .i32 0)) ∧ w.grownBy (wz.setCell ⟨s, 4868, none⟩ (.int .i32 0)) (some s) := by
  obtain ⟨h1, h2, h3⟩ := hP
  have hg := grown_set (off := 4868) h3 (.int .i32 0)
  obtain ⟨cs, e, fr, hsc⟩ := cells_of_cell hS0.mu
  have hne : ∀ {R : Value → Option (DataW Unit × List MemPlace)} {b n : Nat} {D : DataW Unit}, wr.ownsMap Try.prog 22 R b n D → some b ≠ some s := fun ho e' => by cases e'; exact map_not_cells ho _ _ _ hsc
  have hk := Keeps.store hK hg
  refine ⟨rb, Dr, ⟨hbs, ?_⟩, hor.kept hg (hne hor), href, fun i hi => ?_, hk, hB.grown hg hsz (fun k e => by cases e; exact hbs), hGW.andThen hg (fun j e => .inr e)⟩
  · rcases hkb with ⟨rfl, rfl⟩ | ⟨b, D, hbb, rfl, ho, hrd⟩
    · exact .inl ⟨h1.setMu 0, rfl⟩
    · exact .inr ⟨b, D, hbb, h1.setMu 0, ho.kept hg (hne ho), hrd.keeps (Keeps.store (Keeps.refl s wr) hg)⟩
  · rw [cell_set wz s 4868 _ _ (h2 i hi), if_neg (by omega)]

set_option maxRecDepth 100000 in
set_option maxHeartbeats 3200000 in
theorem filled_more (base s : Nat) (r : Option Nat) (G : List (Int × List Int)) (w : World) (hG : G.length ≤ 1048576) (hks : KS base w s r G) :
    Calls Try.prog 14 #[.pointer (some ⟨s, 0, none⟩)] w fun e w' => e = .returned (.tuple #[]) ∧ ∃ rb Dr, KS base w' s (some rb) G ∧ w'.ownsMap Try.prog 22 (plainElem Try.prog 22) rb G.length Dr ∧ RefPart Dr (fun _ => false) G ∧
      (∀ i, i < 256 → w'.cell? ⟨s, 4 + i * 19 + 14, none⟩ = some (.map none)) ∧ Keeps s w w' ∧ Below base w w' ∧ w.grownBy w' (some s) := by
  obtain ⟨hbs, hks⟩ := hks
  have hmm := @run_makeMap Try.prog
  rcases hks with ⟨hS, hG0⟩ | ⟨b, D, hbb, hS, hown, hrd⟩
  · have hlt := hS.lt
    have hmu := hS.mu
    have hkp := hS.kept
    have hrf := hS.refilled
    have hfr := hS.free
    have hrn := fun (w : World) => run_range_nilMap (P := Try.prog) w 74 22 83 Try.underlying74
    obtain ⟨W2, hW2⟩ : ∃ W2, W2 = ((w.setCell ⟨s, 4868, none⟩ (.int .i32 1)).setCell ⟨s, 4873, none⟩ (.map (some w.heap.size))).alloc (.map #[] 0) := ⟨_, rfl⟩
    have hz2 : W2.heap.size = w.heap.size + 1 := by rw [hW2]; simp [World.setCell]
    have hnx := fun (ty : TypeId) => run_next_nilMap (P := Try.prog) W2 ty 0 0 #[]
    rw [hz2] at hnx
    have hS2 : StoreM W2 s 1 none (some w.heap.size) := by rw [hW2]; exact ((hS.setMu 1).setRefilled _).alloc _
    have hM2 : W2.ownsMap Try.prog 22 (plainElem (H := Unit) Try.prog 22) w.heap.size 0 (.map []) := by
      rw [hW2]
      have := World.ownsMap_made ((w.setCell ⟨s, 4868, none⟩ (.int .i32 1)).setCell ⟨s, 4873, none⟩ (.map (some w.heap.size))) Try.prog 22 (plainElem (H := Unit) Try.prog 22)
      simpa [World.setCell] using this
    have hK2 : Keeps s w W2 := by rw [hW2]; exact ((((Keeps.refl s w).setCell _ _).setCell _ _).alloc _)
    have hB2 : Below base w W2 := by rw [hW2]; exact (((Below.refl _ _).setCell hbs _).setCell hbs _).alloc (by simp [World.setCell]; omega) _
    have hG2 : w.grownBy W2 (some s) := by rw [hW2]; exact (grown_set (grown_set (World.grownBy.refl _ _) _) _).andThen (World.grownBy_alloc _ _ none) (fun j e => by cases e)
    subst hG0
    obtain ⟨V, hV⟩ : ∃ V, V = W2.alloc (.mapIter none 0 #[] 0) := ⟨_, rfl⟩
    have HS : Hid (StoreM V s 1 none (some w.heap.size)) := by rw [hV]; exact hS2.alloc _
    have HO : Hid (V.ownsMap Try.prog 22 (plainElem (H := Unit) Try.prog 22) w.heap.size ([] : List (Int × List Int)).length (.map [])) := by rw [hV]; exact hM2.alloc _
    have HKW : Hid (Keeps s w V) := by rw [hV]; exact hK2.alloc _
    have HBW : Hid (Below base w V) := by rw [hV]; exact hB2.alloc (by omega) _
    have HGW : Hid (w.grownBy V (some s)) := by rw [hV]; exact hG2.andThen (World.grownBy_alloc _ _ none) (fun j e => by cases e)
    have hsz : base ≤ V.heap.size := by rw [hV]; simp; omega
    have HV : Hid (V = W2.alloc (.mapIter none 0 #[] 0)) := hV
    have HW2 : Hid (W2 = ((w.setCell ⟨s, 4868, none⟩ (.int .i32 1)).setCell ⟨s, 4873, none⟩ (.map (some w.heap.size))).alloc (.map #[] 0)) := hW2
    clear hV hS2 hM2 hK2 hB2 hG2 hS hz2
    rw [hW2] at hnx
    clear hW2
    go_enter_defers Try.func14, Try.ntmps14
    go_wp2_with (go_at_call 21; refine (lock_free Try.muLib ⟨s, 4868, none⟩ _ hmu (hfr _)).mono ?_; rintro e w' ⟨rfl, hw⟩; subst w')
    refine wp_loop_rounds 1 ?_
    rw [rounds_succ]
    go_wp2_with fail
    rw [← HW2.out, ← HV.out]
    clear hmu hkp hrf hfr hrn hnx hmm
    go_loopw [5, 6, 50] (fun _ _ i wz => ∃ k : Nat, k ≤ 256 ∧ i = .int .i64 k ∧ PR s w.heap.size k none V wz) (fun _ _ i _ => 256 - (intOf i).toNat)
    case atStart => exact ⟨0, Nat.zero_le _, rfl, HS.out, fun j hj => absurd hj (by omega), World.grownBy.refl _ _⟩
    case round =>
      obtain ⟨k, hk, rfl, hpr⟩ := hrel
      by_cases hlt2 : k < 256
      · have hp1 := hpr.1.part k hlt2
        have hfz := hpr.1.free
        obtain ⟨q, hp2⟩ := hpr.1.written k hlt2
        have HPR : Hid (PR s w.heap.size (k + 1) none V _) := hpr.step hlt2
        clear hpr
        go_wp2_with fail
        refine (lock_free Try.muLib ⟨s, 4 + k * 19, none⟩ _ hp1 (hfz _)).mono ?_
        rintro e w' ⟨rfl, rfl⟩
        go_wp2_with fail
        refine (unlock_held Try.muLib ⟨s, 4 + k * 19, none⟩ _ ?_ ?_).mono ?_
        · rw [cell_set _ s _ _ _ (cell_set wr s _ _ _ hp1), if_neg (by omega), if_pos rfl]
        · simp [hfz]
        rintro e w' ⟨rfl, rfl⟩
        go_wp2_with fail
        go_roundw
        case rel => exact ⟨k + 1, by omega, by go_num, HPR.out⟩
        case measure => simp [intOf]; omega
      · have hge : k = 256 := by omega
        subst hge
        have hmu2 := hpr.1.mu
        have hfz2 := hpr.1.free 4868
        go_wp2_with fail
        refine leaves_cons (f := 22) (args := #[.pointer (some ⟨s, 4868, none⟩)]) (by simp) (by simp [go_sem]) ?_
        refine (unlock_deferred Try.muLib ⟨s, 4868, none⟩ .returning _ hmu2 hfz2).mono ?_
        rintro e u' w'' ⟨rfl, rfl, rfl⟩
        refine ⟨_, results_none rfl _ _ _, rfl, ?_⟩
        exact filled_end hbs hpr HO.out RefPart.empty HKW.out HBW.out hsz HS.out HGW.out (.inl ⟨rfl, rfl⟩)
  · have hlt := hS.lt
    have hbl : b < w.heap.size := hown.lt
    have hmu := hS.mu
    have hkp := hS.kept
    have hrf := hS.refilled
    have hfr := hS.free
    have hnb : b ≠ s := fun e => by subst e; obtain ⟨cs, e, fr, hh⟩ := cells_of_cell hS.mu; exact map_not_cells hown _ _ _ hh
    obtain ⟨W2, hW2⟩ : ∃ W2, W2 = ((w.setCell ⟨s, 4868, none⟩ (.int .i32 1)).setCell ⟨s, 4873, none⟩ (.map (some w.heap.size))).alloc (.map #[] 0) := ⟨_, rfl⟩
    have hz2 : W2.heap.size = w.heap.size + 1 := by rw [hW2]; simp [World.setCell]
    have hS2 : StoreM W2 s 1 (some b) (some w.heap.size) := by rw [hW2]; exact ((hS.setMu 1).setRefilled _).alloc _
    have hO2 : W2.ownsMap Try.prog 22 ptrElem b G.length D := by rw [hW2]; exact ((hown.setCell (a := ⟨s, 4868, none⟩) hnb _).setCell (a := ⟨s, 4873, none⟩) hnb _).alloc _
    have hM2 : W2.ownsMap Try.prog 22 (plainElem (H := Unit) Try.prog 22) w.heap.size 0 (.map []) := by
      rw [hW2]
      have := World.ownsMap_made ((w.setCell ⟨s, 4868, none⟩ (.int .i32 1)).setCell ⟨s, 4873, none⟩ (.map (some w.heap.size))) Try.prog 22 (plainElem (H := Unit) Try.prog 22)
      simpa [World.setCell] using this
    have hK2 : Keeps s w W2 := by rw [hW2]; exact ((((Keeps.refl s w).setCell _ _).setCell _ _).alloc _)
    have hB2 : Below base w W2 := by rw [hW2]; exact (((Below.refl _ _).setCell hbs _).setCell hbs _).alloc (by simp [World.setCell]; omega) _
    have hG2 : w.grownBy W2 (some s) := by rw [hW2]; exact (grown_set (grown_set (World.grownBy.refl _ _) _) _).andThen (World.grownBy_alloc _ _ none) (fun j e => by cases e)
    have H2 : Hid (W2 = ((w.setCell ⟨s, 4868, none⟩ (.int .i32 1)).setCell ⟨s, 4873, none⟩ (.map (some w.heap.size))).alloc (.map #[] 0)) := hW2
    have HO2 : Hid (((w.setCell ⟨s, 4868, none⟩ (.int .i32 1)).setCell ⟨s, 4873, none⟩ (.map (some w.heap.size))).alloc (.map #[] 0) |>.ownsMap Try.prog 22 ptrElem b G.length D) := by rw [hW2] at hO2; exact hO2
    have HS2 : Hid (StoreM W2 s 1 (some b) (some w.heap.size)) := hS2
    have HM2 : Hid (W2.ownsMap Try.prog 22 (plainElem (H := Unit) Try.prog 22) w.heap.size 0 (.map [])) := hM2
    have HZ2 : Hid (W2.heap.size = w.heap.size + 1) := hz2
    have HRD : Hid (Reads W2 s D G) := hrd.keeps hK2
    clear hW2 hS2 hO2 hM2 hz2 hS hown hrd
    go_enter_defers Try.func14, Try.ntmps14
    go_wp2_with (first
      | (go_at_call 21; refine (lock_free Try.muLib ⟨s, 4868, none⟩ _ hmu (hfr _)).mono ?_; rintro e w' ⟨rfl, hw⟩; subst w')
      | (at_range; refine wpList_range_own _ rfl _ 74 rfl 22 83 law22 Try.underlying74 ptrElem b G.length D rfl (by exact HO2.out) ?_; rw [← H2.out]; intro w3 hrg3 hg3 hs3))
    go_frame
    have hr0 : base ≤ W2.heap.size := by rw [HZ2.out]; omega
    have hstart : FR base s b W2.heap.size w.heap.size G D w w3 := by
      have hnr : ∀ b', (none : Option Nat) = some b' → ∀ cs e fr, W2.heap[b']? ≠ some (.cells cs e fr) := fun b' e => by cases e
      exact ⟨_, _, 0, _, hrg3, by have := hrg3.owns.size_le; omega, HM2.out.kept hg3 (by simp), RefPart.start HRD.out, HS2.out.grown hg3 hnr, HRD.out.keeps ((Keeps.refl s W2).grown hg3 hnr), hK2.grown hg3 hnr, hB2.grown hg3 hr0 (fun k e => by cases e), by rw [hs3]; omega, hG2.andThen hg3 (fun j e => by cases e)⟩
    have HST : Hid (FR base s b W2.heap.size w.heap.size G D w w3) := hstart
    clear hstart hrg3 hg3 hs3 hmu hkp hrf hfr hK2 hB2 hG2 HO2 H2 HS2 HM2 HRD hmm
    go_loopw [2, 3, 4] (fun _ _ _ wr => FR base s b W2.heap.size w.heap.size G D w wr) (fun _ _ _ wr => wr.rangeLeft b W2.heap.size)
    case atStart => exact HST.out
    case round =>
      clear HST
      obtain ⟨left, cnt, n, Dr, hrg, hcnt, hor, href, hS, hrd, hK, hB, hsz, hGW⟩ := hrel
      have HGW : Hid (w.grownBy wr (some s)) := hGW
      clear hGW
      go_wp2_with (at_next; refine wpList_next_kept rfl _ rfl b W2.heap.size G.length s D G left cnt rfl hrg hrd ?_ ?_)
      case _ =>
        intro hc0 hl0
        have HP : Hid (RefPart Dr (fun _ => false) G) := href.done hl0
        have HO : Hid (wr.ownsMap Try.prog 22 (plainElem Try.prog 22) w.heap.size G.length Dr) := hor.mono (by omega)
        have HKM : Hid (wr.ownsMap Try.prog 22 ptrElem b G.length D) := hrg.owns
        have HS : Hid (StoreM wr s 1 (some b) (some w.heap.size)) := hS
        have HRD : Hid (Reads wr s D G) := hrd
        have HKW : Hid (Keeps s w wr) := hK
        have HBW : Hid (Below base w wr) := hB
        clear hrg hor href hS hrd hK hB hl0 hc0
        go_wp2_with fail
        obtain ⟨V, hV⟩ : ∃ V, V = wr := ⟨_, rfl⟩
        subst hV
        go_loopw [5, 6, 50] (fun _ _ i wz => ∃ k : Nat, k ≤ 256 ∧ i = .int .i64 k ∧ PR s w.heap.size k (some b) V wz) (fun _ _ i _ => 256 - (intOf i).toNat)
        case atStart => exact ⟨0, Nat.zero_le _, rfl, HS.out, fun j hj => absurd hj (by omega), World.grownBy.refl _ _⟩
        case round =>
          obtain ⟨k, hk, rfl, hpr⟩ := hrel
          by_cases hlt2 : k < 256
          · have hp1 := hpr.1.part k hlt2
            have hfz := hpr.1.free
            obtain ⟨q, hp2⟩ := hpr.1.written k hlt2
            have HPR : Hid (PR s w.heap.size (k + 1) (some b) V _) := hpr.step hlt2
            clear hpr
            go_wp2_with fail
            refine (lock_free Try.muLib ⟨s, 4 + k * 19, none⟩ _ hp1 (hfz _)).mono ?_
            rintro e w' ⟨rfl, rfl⟩
            go_wp2_with fail
            refine (unlock_held Try.muLib ⟨s, 4 + k * 19, none⟩ _ ?_ ?_).mono ?_
            · rw [cell_set _ s _ _ _ (cell_set wr s _ _ _ hp1), if_neg (by omega), if_pos rfl]
            · simp [hfz]
            rintro e w' ⟨rfl, rfl⟩
            go_wp2_with fail
            go_roundw
            case rel => exact ⟨k + 1, by omega, by go_num, HPR.out⟩
            case measure => simp [intOf]; omega
          · have hge : k = 256 := by omega
            subst hge
            have hmu2 := hpr.1.mu
            have hfz2 := hpr.1.free 4868
            go_wp2_with fail
            refine leaves_cons (f := 22) (args := #[.pointer (some ⟨s, 4868, none⟩)]) (by simp) (by simp [go_sem]) ?_
            refine (unlock_deferred Try.muLib ⟨s, 4868, none⟩ .returning _ hmu2 hfz2).mono ?_
            rintro e u' w'' ⟨rfl, rfl, rfl⟩
            refine ⟨_, results_none rfl _ _ _, rfl, ?_⟩
            exact filled_end hbs hpr HO.out HP.out HKW.out HBW.out hsz HS.out HGW.out (.inr ⟨b, D, hbb, rfl, HKM.out, HRD.out⟩)
      case _ =>
        intro x g l w1 cnt1 hwx HLl hk hrg1 hlt1 hgr HSz hen
        obtain ⟨hgs, hlb, t, hts, hc0, hcs⟩ := hk
        have hnc : ∀ b', some W2.heap.size = some b' → ∀ cs e fr, wr.heap[b']? ≠ some (.cells cs e fr) := fun b' e => by cases e; exact iter_not_cells hrg
        have hS1 := hS.grown hgr hnc
        have hor1 : w1.ownsMap Try.prog 22 (plainElem Try.prog 22) w.heap.size n Dr := hor.kept hgr (fun e => by rw [HZ2.out] at e; simp at e)
        have hrd1 := hrd.keeps ((Keeps.refl s wr).grown hgr hnc)
        have hK1 := hK.grown hgr hnc
        have hB1 : Below base w w1 := hB.grown hgr hsz (fun k e => by cases e; exact hr0)
        have hsz1 : base ≤ w1.heap.size := by rw [HSz.out]; exact hsz
        have HGW1 : Hid (w.grownBy w1 (some s)) := HGW.out.andThen hgr (fun j e => by cases e; exact .inl (by rw [HZ2.out]; omega))
        have hrc := hS1.refilled
        have HS1 : Hid (StoreM w1 s 1 (some b) (some w.heap.size)) := hS1
        have HRG : Hid (wr.ranges Try.prog 22 ptrElem b W2.heap.size G.length D left cnt) := hrg
        have HRG1 : Hid (w1.ranges Try.prog 22 ptrElem b W2.heap.size G.length D (fun z => left z && !z.sameKey (.int .u64 x)) cnt1) := hrg1
        have HOR1 : Hid (w1.ownsMap Try.prog 22 (plainElem Try.prog 22) w.heap.size n Dr) := hor1
        have HRD1 : Hid (Reads w1 s D G) := hrd1
        clear hS hor hrd hK hB hsz hrg hrg1 hS1 hor1 hrd1 hgr hnc
        by_cases hp : 0 < l.length
        · obtain ⟨N, hN⟩ : ∃ N, N = l.length := ⟨_, rfl⟩
          obtain ⟨m, hm⟩ : ∃ m, m = l.length - 1 := ⟨_, rfl⟩
          obtain ⟨v, hv⟩ : ∃ v, v = l.getD m 0 := ⟨_, rfl⟩
          have hcv : w1.cell? ⟨t, m * 4, none⟩ = some (.int .u64 v) := by rw [hv]; exact hcs m (by omega)
          rw [← hN] at hc0 hp hlb
          have HNX : Hid (nextOf l = IntKind.u64.wrap (v + 1)) := by show nextOf l = _; unfold nextOf; rw [← hm, hv]
          have HN : Hid (N = l.length) := hN
          have HM : Hid (m = l.length - 1) := hm
          have hw1 : IntKind.i64.wrap ((N : Int) - 1) = (m : Int) := by rw [IntKind.wrap_i64]; omega
          have hmN : (m : Int) < (N : Int) := by omega
          have hm0 : (0 : Int) ≤ (m : Int) := by omega
          clear hcs hv hm hN
          obtain ⟨w2, hrun, hor2, hturn⟩ := World.ownsMap.store (w := w1.drew) (val := .int .u64 (IntKind.u64.wrap (v + 1))) HOR1.out.drew law22 Try.underlying39 (by unfold maxLen; omega) (Maps.keyOf_int_mk Try.underlying22 hwx) (plainElem_int Try.underlying22 (wf_wrap .u64 _))
          have HO2 : Hid (w2.ownsMap Try.prog 22 (plainElem (H := Unit) Try.prog 22) w.heap.size (n + 1) (Dr.put (.int .u64 x) (.lit (.int .u64 (IntKind.u64.wrap (v + 1)))))) := hor2
          have hg2 : w1.grownBy w2 (some w.heap.size) := by have h := hturn.grown; exact ⟨h.os, h.tape, h.output, h.size, h.block⟩
          have hnc2 : ∀ b', some w.heap.size = some b' → ∀ cs e fr, w1.heap[b']? ≠ some (.cells cs e fr) := fun b' e => by cases e; exact map_not_cells HOR1.out
          have hk2 : Keeps s w1 w2 := (Keeps.refl s w1).grown hg2 hnc2
          have hS2 := HS1.out.grown hg2 hnc2
          have hr2 := hS2.refilled
          have hc2 := hk2.cell (a := ⟨g, 0, none⟩) hgs hc0
          have hv2 := hk2.cell (a := ⟨t, m * 4, none⟩) hts hcv
          have HG2 : Hid (w1.grownBy w2 (some w.heap.size)) := hg2
          have HK2 : Hid (Keeps s w1 w2) := hk2
          have HS2 : Hid (StoreM w2 s 1 (some b) (some w.heap.size)) := hS2
          clear hor2 hturn hnc2 hg2 hk2 hS2
          go_wp2_with fail
          go_region_held3 (fun w' => w'.cell? ⟨s, 4873, none⟩ = some (.map (some w.heap.size)) ∧ w'.cell? ⟨g, 0, none⟩ = some (.slice (some ⟨t, 0, none⟩) N N) ∧ w'.cell? ⟨t, m * 4, none⟩ = some (.int .u64 v)) (go_keep) (fail)
          go_wp2_with fail
          refine ⟨⟨_, cnt1, n + 1, _, HRG1.out.kept HG2.out (fun e => by cases e; omega) (fun e => by rw [HZ2.out] at e; simp at e), by omega, HO2.out, ?_, HS2.out, HRD1.out.keeps HK2.out, hK1.trans HK2.out, hB1.grown HG2.out hsz1 (fun k e => by cases e; omega), Nat.le_trans hsz1 HG2.out.size, HGW1.out.andThen HG2.out (fun j e => by cases e; exact .inl (Nat.le_refl _))⟩, ?_⟩
          · rw [← HNX.out]
            exact href.put HOR1.out.isMap hwx HLl.out (by rw [← HN.out]; exact hp)
          · rw [HRG.out.left_eq, (HRG1.out.kept HG2.out (fun e => by cases e; omega) (fun e => by rw [HZ2.out] at e; simp at e)).left_eq]
            exact hlt1
        · have hz : l.length = 0 := by omega
          have HZ : Hid (l.length = 0) := hz
          rw [hz] at hc0
          clear hz hp hcs
          go_wp2_with fail
          refine ⟨⟨_, cnt1, n, _, HRG1.out, by omega, HOR1.out, href.skip HLl.out HZ.out, HS1.out, HRD1.out, hK1, hB1, hsz1, HGW1.out⟩, ?_⟩
          rw [HRG.out.left_eq, HRG1.out.left_eq]
          exact hlt1

theorem filled_any (base s : Nat) (r : Option Nat) (G : List (Int × List Int)) (w : World) (hG : G.length ≤ 1048576) (hks : KS base w s r G) :
    Calls Try.prog 14 #[.pointer (some ⟨s, 0, none⟩)] w fun e w' => e = .returned (.tuple #[]) ∧ ∃ rb Dr, KS base w' s (some rb) G ∧ w'.ownsMap Try.prog 22 (plainElem Try.prog 22) rb G.length Dr ∧ RefPart Dr (fun _ => false) G ∧
      (∀ i, i < 256 → w'.cell? ⟨s, 4 + i * 19 + 14, none⟩ = some (.map none)) ∧ Keeps s w w' ∧ Below base w w' :=
  (filled_more base s r G w hG hks).mono fun e w' ⟨h, rb, Dr, h1, h2, h3, h4, h5, h6, _⟩ => ⟨h, rb, Dr, h1, h2, h3, h4, h5, h6⟩
end Go.Proofs.Qxb6616935a
