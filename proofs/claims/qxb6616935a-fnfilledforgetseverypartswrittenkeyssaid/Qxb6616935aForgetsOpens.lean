/-
  THE LAW'S ARGUMENTS OPENED: slices of numbers, of bytes, of strings; slices of such slices.
-/
import Derived.Test.Qxb6616935aShared
import Derived.ProofKit
import Derived.OpenShut
import Derived.ChangeOld
import Derived.Deep.Slices
import Derived.SliceStrings
namespace Go.Proofs.Qxb6616935a
open Go.ChangeShapes Go.WideShapes Go.ChangeAt Go.RowKit
set_option linter.unusedVariables false

theorem cells22 : Try.prog.cellsOf 22 = 1 := by kernel_rfl
theorem cells33 : Try.prog.cellsOf 33 = 1 := by kernel_rfl
theorem cells5 : Try.prog.cellsOf 5 = 1 := by kernel_rfl
theorem cells9 : Try.prog.cellsOf 9 = 1 := by kernel_rfl
theorem cells46 : Try.prog.cellsOf 46 = 1 := by kernel_rfl
theorem byte_wf {z : Int} (h : (Lit.int .u8 z).wf = true) : 0 ≤ z ∧ z ≤ 255 := by
  simp [Lit.wf, IntKind.min, IntKind.max, IntKind.signed, IntKind.bits] at h
  omega

theorem row_of {H : Type} {enc : TypeId × Value → H} {W : World} {fuel : Nat} {v : Value} {x : DataW H × List MemPlace} (h : DataW.trod enc Try.prog W 0 (fun _ => true) true fuel 33 [v] = some x) :
    ∃ (a : Option Addr) (l : List Int) (c : Nat), v = .slice a l.length c ∧ l.length ≤ maxLen ∧ RowAt W a l ∧ ∀ i, i < l.length → (Lit.int .u64 (l.getD i 0)).wf = true := by
  rcases open_ints Try.underlying33 Try.underlying22 cells22 h with ⟨hcs, _⟩ | ⟨x, len, c, zs, hcs, _, hl, hm, hz, _, hcell, hwz⟩
  · simp at hcs
    subst hcs
    exact ⟨none, [], 0, rfl, by unfold maxLen; simp, fun h => absurd h (by simp), fun i hi => absurd hi (by simp)⟩
  · simp at hcs hz
    subst hcs
    have hlen : (zs.take len).length = len := by rw [List.length_take]; omega
    have hget : ∀ i, i < len → (zs.take len).getD i 0 = zs.getD i 0 := fun i hi => by simp [hi]
    refine ⟨some x, zs.take len, c, by rw [hlen], by rw [hlen]; omega, fun hpos => ?_, fun i hi => ?_⟩
    · rw [hlen] at hpos
      obtain ⟨b, off, spot⟩ := x
      have hspot : spot = none := by simpa [Addr.add] using World.cell?_spot (hcell 0 (by omega))
      subst hspot
      refine ⟨b, off, rfl, fun i hi => ?_⟩
      rw [hlen] at hi
      rw [hget i hi, ← add_plain b off i]
      exact hcell i (by omega)
    · rw [hlen] at hi
      rw [hget i hi]
      refine hwz _ ?_
      rw [List.getD_eq_getElem?_getD, List.getElem?_eq_getElem (show i < zs.length by omega)]
      exact List.getElem_mem _

theorem rowB_of {H : Type} {enc : TypeId × Value → H} {W : World} {fuel : Nat} {v : Value} {x : DataW H × List MemPlace} (h : DataW.trod enc Try.prog W 0 (fun _ => true) true fuel 23 [v] = some x) :
    ∃ (a : Option Addr) (l : List Int) (c : Nat), v = .slice a l.length c ∧ l.length ≤ maxLen ∧ RowB W a l ∧ ∀ i, i < l.length → 0 ≤ l.getD i 0 ∧ l.getD i 0 ≤ 255 := by
  rcases open_ints Try.underlying23 Try.underlying5 cells5 h with ⟨hcs, _⟩ | ⟨x, len, c, zs, hcs, _, hl, hm, hz, _, hcell, hwz⟩
  · simp at hcs
    subst hcs
    exact ⟨none, [], 0, rfl, by unfold maxLen; simp, fun h => absurd h (by simp), fun i hi => absurd hi (by simp)⟩
  · simp at hcs hz
    subst hcs
    have hlen : (zs.take len).length = len := by rw [List.length_take]; omega
    have hget : ∀ i, i < len → (zs.take len).getD i 0 = zs.getD i 0 := fun i hi => by simp [hi]
    refine ⟨some x, zs.take len, c, by rw [hlen], by rw [hlen]; omega, fun hpos => ?_, fun i hi => ?_⟩
    · rw [hlen] at hpos
      obtain ⟨b, off, spot⟩ := x
      have hspot : spot = none := by simpa [Addr.add] using World.cell?_spot (hcell 0 (by omega))
      subst hspot
      refine ⟨b, off, rfl, fun i hi => ?_⟩
      rw [hlen] at hi
      rw [hget i hi, ← add_plain b off i]
      exact hcell i (by omega)
    · rw [hlen] at hi
      rw [hget i hi]
      refine byte_wf (hwz _ ?_)
      rw [List.getD_eq_getElem?_getD, List.getElem?_eq_getElem (show i < zs.length by omega)]
      exact List.getElem_mem _

theorem rowS_of {H : Type} {enc : TypeId × Value → H} {W : World} {fuel : Nat} {v : Value} {x : DataW H × List MemPlace} (h : DataW.trod enc Try.prog W 0 (fun _ => true) true fuel 46 [v] = some x) :
    ∃ (a : Option Addr) (l : List ByteArray) (c : Nat), v = .slice a l.length c ∧ l.length ≤ maxLen ∧ RowS W a l := by
  rcases open_strings Try.underlying46 Try.underlying9 cells9 h with ⟨hcs, _⟩ | ⟨x, len, c, zs, hcs, _, hl, hm, hz, _, hcell, hwz⟩
  · simp at hcs
    subst hcs
    exact ⟨none, [], 0, rfl, by unfold maxLen; simp, fun h => absurd h (by simp)⟩
  · simp at hcs hz
    subst hcs
    have hlen : (zs.take len).length = len := by rw [List.length_take]; omega
    have hget : ∀ i, i < len → (zs.take len).getD i ByteArray.empty = zs.getD i ByteArray.empty := fun i hi => by simp [hi]
    refine ⟨some x, zs.take len, c, by rw [hlen], by rw [hlen]; omega, fun hpos => ?_⟩
    rw [hlen] at hpos
    obtain ⟨b, off, spot⟩ := x
    have hspot : spot = none := by simpa [Addr.add] using World.cell?_spot (hcell 0 (by omega))
    subst hspot
    refine ⟨b, off, rfl, fun i hi => ?_⟩
    rw [hlen] at hi
    rw [hget i hi, ← add_plain b off i]
    refine ⟨hcell i (by omega), hwz _ ?_⟩
    rw [List.getD_eq_getElem?_getD, List.getElem?_eq_getElem (show i < zs.length by omega)]
    exact List.getElem_mem _

theorem rows2_of {H : Type} {enc : TypeId × Value → H} {W : World} {fuel : Nat} {v : Value} {x : DataW H × List MemPlace} (h : DataW.trod enc Try.prog W 0 (fun _ => true) true fuel 34 [v] = some x) :
    ∃ (a : Option Addr) (L : List (List Int)) (c : Nat), v = .slice a L.length c ∧ L.length ≤ maxLen ∧ Rows2 W a L ∧ ∀ i j, i < L.length → j < (L.getD i []).length → (Lit.int .u64 ((L.getD i []).getD j 0)).wf = true := by
  rcases Go.Deep.open_slice1 Try.underlying34 cells33 h with ⟨hcs, _⟩ | ⟨x, len, c, m, n, V, D, Pl, hcs, _, hl, hm, hmm, _, hV⟩
  · simp at hcs
    subst hcs
    exact ⟨none, [], 0, rfl, by unfold maxLen; simp, fun h => absurd h (by simp), fun i j hi => absurd hi (by simp)⟩
  · simp at hcs hmm
    subst hcs
    obtain ⟨f, hf⟩ := Go.Deep.choose_lt (n := len) (α := List Int) (p := fun i l => ∃ (a : Option Addr) (c : Nat), V i = .slice a l.length c ∧ RowAt W a l ∧ ∀ j, j < l.length → (Lit.int .u64 (l.getD j 0)).wf = true)
      (fun i hi => by
        obtain ⟨a, l, c, h1, _, h2, h3⟩ := row_of (hV i (by omega)).2
        exact ⟨l, a, c, h1, h2, h3⟩)
    have hget : ∀ i, i < len → ((List.range len).map f).getD i [] = f i := fun i hi => by simp [hi]
    have hlen : ((List.range len).map f).length = len := by simp
    refine ⟨some x, (List.range len).map f, c, by rw [hlen], by rw [hlen]; omega, fun hpos => ?_, fun i j hi hj => ?_⟩
    · rw [hlen] at hpos
      obtain ⟨b, off, spot⟩ := x
      have hspot : spot = none := by simpa [Addr.add] using World.cell?_spot (hV 0 (by omega)).1
      subst hspot
      refine ⟨b, off, rfl, fun i hi => ?_⟩
      rw [hlen] at hi
      obtain ⟨a, c', h1, h2, _⟩ := hf i hi
      rw [hget i hi]
      exact ⟨a, c', by rw [← h1, ← add_plain b off i]; exact (hV i (by omega)).1, h2⟩
    · rw [hlen] at hi
      rw [hget i hi] at hj ⊢
      obtain ⟨_, _, _, _, h3⟩ := hf i hi
      exact h3 j hj
theorem rows2S_of {H : Type} {enc : TypeId × Value → H} {W : World} {fuel : Nat} {v : Value} {x : DataW H × List MemPlace} (h : DataW.trod enc Try.prog W 0 (fun _ => true) true fuel 44 [v] = some x) :
    ∃ (a : Option Addr) (L : List (List ByteArray)) (c : Nat), v = .slice a L.length c ∧ L.length ≤ maxLen ∧ Rows2S W a L ∧ ∀ i, i < L.length → (L.getD i []).length ≤ maxLen := by
  rcases Go.Deep.open_slice1 Try.underlying44 cells46 h with ⟨hcs, _⟩ | ⟨x, len, c, m, n, V, D, Pl, hcs, _, hl, hm, hmm, _, hV⟩
  · simp at hcs
    subst hcs
    exact ⟨none, [], 0, rfl, by unfold maxLen; simp, fun h => absurd h (by simp), fun i hi => absurd hi (by simp)⟩
  · simp at hcs hmm
    subst hcs
    obtain ⟨f, hf⟩ := Go.Deep.choose_lt (n := len) (α := List ByteArray) (p := fun i l => ∃ (a : Option Addr) (c : Nat), V i = .slice a l.length c ∧ RowS W a l ∧ l.length ≤ maxLen)
      (fun i hi => by
        obtain ⟨a, l, c, h1, h2, h3⟩ := rowS_of (hV i (by omega)).2
        exact ⟨l, a, c, h1, h3, h2⟩)
    have hget : ∀ i, i < len → ((List.range len).map f).getD i [] = f i := fun i hi => by simp [hi]
    have hlen : ((List.range len).map f).length = len := by simp
    refine ⟨some x, (List.range len).map f, c, by rw [hlen], by rw [hlen]; omega, fun hpos => ?_, fun i hi => ?_⟩
    · rw [hlen] at hpos
      obtain ⟨b, off, spot⟩ := x
      have hspot : spot = none := by simpa [Addr.add] using World.cell?_spot (hV 0 (by omega)).1
      subst hspot
      refine ⟨b, off, rfl, fun i hi => ?_⟩
      rw [hlen] at hi
      obtain ⟨a, c', h1, h2, _⟩ := hf i hi
      rw [hget i hi]
      exact ⟨a, c', by rw [← h1, ← add_plain b off i]; exact (hV i (by omega)).1, h2⟩
    · rw [hlen] at hi
      rw [hget i hi]
      obtain ⟨_, _, _, _, h3⟩ := hf i hi
      exact h3
end Go.Proofs.Qxb6616935a
