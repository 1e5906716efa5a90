/-
  THE LAW'S ARGUMENTS OPENED: slices of strings, of pairs of strings, a Limits, a pointer to one, a slice of keys.
-/
import Derived.Test.Qxb6618931aLims
import Derived.ProofKit
import Derived.OpenShut
import Derived.ChangeOld
import Derived.Deep.Slices
import Derived.Deep.Fields
import Derived.SliceStrings
import Derived.Lib.SmallJoins
namespace Go.Proofs.Qxb6618931a
open Go.ChangeShapes Go.WideShapes Go.ChangeAt Go.RowKit
set_option linter.unusedVariables false

theorem cells9 : Try.prog.cellsOf 9 = 1 := by kernel_rfl
theorem cells47 : Try.prog.cellsOf 47 = 2 := by kernel_rfl
theorem cells29 : Try.prog.cellsOf 29 = 2 := by kernel_rfl
theorem cells25 : Try.prog.cellsOf 25 = 5 := by kernel_rfl
theorem cells22 : Try.prog.cellsOf 22 = 1 := by kernel_rfl
theorem cells23 : Try.prog.cellsOf 23 = 1 := by kernel_rfl
theorem cells4 : Try.prog.cellsOf 4 = 1 := by kernel_rfl
theorem cells27 : Try.prog.cellsOf 27 = 1 := by kernel_rfl

theorem maxLen_le {n : Nat} (h : n ≤ maxLen) : n ≤ 9223372036854775807 := by unfold maxLen at h; omega

section
variable {H : Type} {enc : TypeId × Value → H} {W : World}

theorem strs_of {fuel : Nat} {v : Value} {x : DataW H × List MemPlace} (h : DataW.trod enc Try.prog W 0 (fun _ => true) true fuel 22 [v] = some x) :
    ∃ (a : Option Addr) (n c : Nat), v = .slice a n c ∧ n ≤ 9223372036854775807 ∧ Strs W a n := by
  rcases open_strings Try.underlying22 Try.underlying9 cells9 h with ⟨hcs, _⟩ | ⟨x, len, c, zs, hcs, _, hl, hm, hz, _, hcell, hwz⟩
  · simp at hcs
    exact ⟨none, 0, 0, hcs, by omega, fun h => absurd h (by omega)⟩
  · simp at hcs hz
    refine ⟨some x, len, c, hcs, maxLen_le (by omega), fun hpos => ?_⟩
    obtain ⟨b, off, spot⟩ := x
    have hspot : spot = none := by simpa [Addr.add] using World.cell?_spot (hcell 0 (by omega))
    subst hspot
    exact ⟨b, off, rfl, fun i hi => ⟨_, by rw [← add_plain b off i]; exact hcell i (by omega)⟩⟩

/-- A slice of structs of two cells: each element's two cells. -/
theorem pairs_of {t e : TypeId} {fuel : Nat} {v : Value} {x : DataW H × List MemPlace} (ht : Try.prog.underlying t = some (.slice e)) (hc : Try.prog.cellsOf e = 2) (h : DataW.trod enc Try.prog W 0 (fun _ => true) true fuel t [v] = some x) :
    ∃ (a : Option Addr) (n c : Nat), v = .slice a n c ∧ n ≤ 9223372036854775807 ∧ (0 < n → ∃ b off, a = some ⟨b, off, none⟩ ∧ ∀ i, i < n → ∃ v0 v1 m y, W.cell? ⟨b, off + i * 2, none⟩ = some v0 ∧ W.cell? ⟨b, off + i * 2 + 1, none⟩ = some v1 ∧ DataW.trod enc Try.prog W 0 (fun _ => true) true m e [v0, v1] = some y) := by
  rcases DataW.trod_slice ht h with ⟨hcs, _⟩ | ⟨ad, len, cap, elems, rest, n, _, hcs, _, hb, hl, hm, hlen, hel, _⟩
  · simp at hcs
    exact ⟨none, 0, 0, hcs, by omega, fun h => absurd h (by omega)⟩
  · simp at hcs
    refine ⟨some ad, len, cap, hcs, maxLen_le (by omega), fun hpos => ?_⟩
    have each : ∀ i, i < len → ∃ v0 v1 m y, W.cell? (ad.add (i * 2)) = some v0 ∧ W.cell? ((ad.add (i * 2)).add 1) = some v1 ∧ DataW.trod enc Try.prog W 0 (fun _ => true) true m e [v0, v1] = some y := by
      intro i hi
      have h1 := hel i hi
      rw [hc, List.getElem?_eq_getElem (by omega)] at h1
      rw [Option.bind_eq_some_iff] at h1
      obtain ⟨cs, hcs, hy⟩ := h1
      obtain ⟨_, hlen2, hcell⟩ := World.cells?_some hcs
      match cs, hlen2 with
      | [v0, v1], _ =>
        refine ⟨v0, v1, n, _, ?_, ?_, hy⟩
        · have := hcell 0 (by omega)
          simpa [Addr.add] using this
        · exact hcell 1 (by omega)
    obtain ⟨b, off, spot⟩ := ad
    have hspot : spot = none := by
      obtain ⟨v0, v1, m, y, h0, _⟩ := each 0 hpos
      simpa [Addr.add] using World.cell?_spot h0
    subst hspot
    refine ⟨b, off, rfl, fun i hi => ?_⟩
    obtain ⟨v0, v1, m, y, h0, h1, h2⟩ := each i hi
    rw [add_plain] at h0 h1
    rw [add_plain] at h1
    exact ⟨v0, v1, m, y, h0, h1, h2⟩

theorem spans_of {fuel : Nat} {v : Value} {x : DataW H × List MemPlace} (h : DataW.trod enc Try.prog W 0 (fun _ => true) true fuel 23 [v] = some x) :
    ∃ (a : Option Addr) (n c : Nat) (T : Nat → ByteArray × ByteArray), v = .slice a n c ∧ n ≤ 9223372036854775807 ∧ Spans W a n T := by
  obtain ⟨a, n, c, rfl, hn, hr⟩ := pairs_of Try.underlying23 cells47 h
  by_cases hpos : 0 < n
  · obtain ⟨b, off, rfl, hc⟩ := hr hpos
    obtain ⟨T, hT⟩ := Go.Deep.choose_lt (n := n) (α := ByteArray × ByteArray) (p := fun i s => W.cell? ⟨b, off + i * 2, none⟩ = some (.string s.1) ∧ W.cell? ⟨b, off + i * 2 + 1, none⟩ = some (.string s.2))
      (fun i hi => by
        obtain ⟨v0, v1, m, y, h0, h1, h2⟩ := hc i hi
        obtain ⟨y0, y1, k, _, _, e0, e1⟩ := trod_struct2 Try.underlying47 h2
        simp [cells9] at e0 e1
        obtain ⟨s0, hs0, _⟩ := DataW.trod_string Try.underlying9 e0
        obtain ⟨s1, hs1, _⟩ := DataW.trod_string Try.underlying9 e1
        simp at hs0 hs1
        subst hs0 hs1
        exact ⟨(s0, s1), h0, h1⟩)
    exact ⟨_, n, c, T, rfl, hn, fun _ => ⟨b, off, rfl, hT⟩⟩
  · exact ⟨a, n, c, fun _ => (ByteArray.empty, ByteArray.empty), rfl, hn, fun h => absurd h hpos⟩

/-- The five cells of a Limits. -/
theorem lim_of {fuel : Nat} {v0 v1 v2 v3 v4 : Value} {x : DataW H × List MemPlace} (h : DataW.trod enc Try.prog W 0 (fun _ => true) true fuel 25 [v0, v1, v2, v3, v4] = some x) :
    ∃ l : Lim, v0 = .slice l.a1 l.n1 l.c1 ∧ v1 = .slice l.a2 l.n2 l.c2 ∧ v2 = .string l.loc ∧ v3 = .slice l.a3 l.n3 l.c3 ∧ v4 = .bool l.bt ∧ LimOK W l := by
  obtain ⟨xs, n, _, _, _, hlen, hf⟩ := DataW.trod_struct Try.underlying25 h
  simp at hlen
  have e0 := hf 0 _ rfl
  have e1 := hf 1 _ rfl
  have e2 := hf 2 _ rfl
  have e3 := hf 3 _ rfl
  have e4 := hf 4 _ rfl
  match xs, hlen with
  | [y0, y1, y2, y3, y4], _ =>
    simp [cells22, cells23, cells9, cells4] at e0 e1 e2 e3 e4
    obtain ⟨a1, n1, c1, rfl, m1, r1⟩ := strs_of e0
    obtain ⟨a2, n2, c2, T, rfl, m2, r2⟩ := spans_of e1
    obtain ⟨s, hs, _⟩ := DataW.trod_string Try.underlying9 e2
    obtain ⟨a3, n3, c3, rfl, m3, r3⟩ := strs_of e3
    obtain ⟨b, hb, _⟩ := DataW.trod_bool Try.underlying4 e4
    simp at hs hb
    exact ⟨⟨a1, n1, c1, a2, n2, c2, T, s, a3, n3, c3, b⟩, rfl, rfl, hs, rfl, hb, ⟨m1, m2, m3, r1, r2, r3⟩⟩

theorem scope_of {fuel : Nat} {v : Value} {x : DataW H × List MemPlace} (h : DataW.trod enc Try.prog W 0 (fun _ => true) true fuel 27 [v] = some x) : ∃ (sc : Option Addr) (l : Lim), v = .pointer sc ∧ ScopeOK W sc l := by
  rcases DataW.trod_pointer Try.underlying27 h with ⟨hcs, _⟩ | ⟨ad, cs', y, m, _, hcs, _, hcells, hy⟩
  · simp at hcs
    exact ⟨none, ⟨none, 0, 0, none, 0, 0, fun _ => (ByteArray.empty, ByteArray.empty), ByteArray.empty, none, 0, 0, false⟩, hcs, fun ad e => by cases e⟩
  · simp at hcs
    obtain ⟨_, hlen, hcell⟩ := World.cells?_some hcells
    rw [cells25] at hlen hcell
    match cs', hlen with
    | [v0, v1, v2, v3, v4], _ =>
      obtain ⟨l, rfl, rfl, rfl, rfl, rfl, hok⟩ := lim_of hy
      have h0 := hcell 0 (by omega)
      have h1 := hcell 1 (by omega)
      have h2 := hcell 2 (by omega)
      have h3 := hcell 3 (by omega)
      have h4 := hcell 4 (by omega)
      obtain ⟨b, off, spot⟩ := ad
      have hspot : spot = none := by simpa [Addr.add] using World.cell?_spot (h0.trans rfl)
      subst hspot
      rw [add_plain] at h0 h1 h2 h3 h4
      refine ⟨_, l, hcs, fun ad e => ?_⟩
      cases e
      exact ⟨b, off, rfl, ⟨h0, h1, h2, h3, h4⟩, hok⟩

theorem keys_of {fuel : Nat} {v : Value} {x : DataW H × List MemPlace} (h : DataW.trod enc Try.prog W 0 (fun _ => true) true fuel 26 [v] = some x) :
    ∃ (a : Option Addr) (n c : Nat) (K : Nat → Key), v = .slice a n c ∧ n ≤ 9223372036854775807 ∧ KeysAt W a n K := by
  obtain ⟨a, n, c, rfl, hn, hr⟩ := pairs_of Try.underlying26 cells29 h
  by_cases hpos : 0 < n
  · obtain ⟨b, off, rfl, hc⟩ := hr hpos
    haveI : Inhabited Key := ⟨⟨ByteArray.empty, none, ⟨none, 0, 0, none, 0, 0, fun _ => (ByteArray.empty, ByteArray.empty), ByteArray.empty, none, 0, 0, false⟩⟩⟩
    obtain ⟨K, hK⟩ := Go.Deep.choose_lt (n := n) (α := Key) (p := fun i κ => (W.cell? ⟨b, off + i * 2, none⟩ = some (.string κ.key) ∧ W.cell? ⟨b, off + i * 2 + 1, none⟩ = some (.pointer κ.sc)) ∧ ScopeOK W κ.sc κ.l)
      (fun i hi => by
        obtain ⟨v0, v1, m, y, h0, h1, h2⟩ := hc i hi
        obtain ⟨y0, y1, k, _, _, e0, e1⟩ := trod_struct2 Try.underlying29 h2
        simp [cells9, cells27] at e0 e1
        obtain ⟨s0, hs0, _⟩ := DataW.trod_string Try.underlying9 e0
        obtain ⟨sc, l, rfl, hsc⟩ := scope_of e1
        simp at hs0
        subst hs0
        exact ⟨⟨s0, sc, l⟩, ⟨h0, h1⟩, hsc⟩)
    exact ⟨_, n, c, K, rfl, hn, ⟨fun _ => ⟨b, off, rfl, fun i hi => (hK i hi).1⟩, fun i hi => (hK i hi).2⟩⟩
  · exact ⟨a, n, c, fun _ => ⟨ByteArray.empty, none, ⟨none, 0, 0, none, 0, 0, fun _ => (ByteArray.empty, ByteArray.empty), ByteArray.empty, none, 0, 0, false⟩⟩, rfl, hn, ⟨fun h => absurd h hpos, fun i hi => absurd hi (by omega)⟩⟩
end
end Go.Proofs.Qxb6618931a
