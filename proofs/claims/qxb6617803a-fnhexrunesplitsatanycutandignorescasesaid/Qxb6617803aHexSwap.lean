/-
  zzSwapCase by a contract; the plain mathematics of the second law.
-/
import Derived.Test.Qxb6617803aHexCopy
namespace Go.Proofs.Qxb6617803a
open Go.RowKit
set_option linter.unusedVariables false

/-- The letter's other case. -/
def swapC (c : Int) : Int := if 97 ≤ c ∧ c ≤ 102 then c - 32 else if 65 ≤ c ∧ c ≤ 70 then c + 32 else c

theorem swap_val (c : Int) (h : isHex c = true) : hexVal (swapC c) = hexVal c := by
  have h3 : (48 ≤ c ∧ c ≤ 57) ∨ (97 ≤ c ∧ c ≤ 102) ∨ (65 ≤ c ∧ c ≤ 70) := by simp [isHex] at h; omega
  unfold swapC hexVal
  rcases h3 with ⟨h1, h2⟩ | ⟨h1, h2⟩ | ⟨h1, h2⟩ <;> (repeat' split) <;> omega

theorem swap_hex (c : Int) (h : isHex c = true) : isHex (swapC c) = true := by
  have h3 : (48 ≤ c ∧ c ≤ 57) ∨ (97 ≤ c ∧ c ≤ 102) ∨ (65 ≤ c ∧ c ≤ 70) := by simp [isHex] at h; omega
  simp only [isHex, Bool.or_eq_true, decide_eq_true_eq]
  unfold swapC
  rcases h3 with ⟨h1, h2⟩ | ⟨h1, h2⟩ | ⟨h1, h2⟩
  · rw [if_neg (by omega), if_neg (by omega)]; omega
  · rw [if_pos ⟨h1, h2⟩]; omega
  · rw [if_neg (by omega), if_pos ⟨h1, h2⟩]; omega

theorem swap_all (l : List Int) (h : l.all isHex = true) : (l.map swapC).all isHex = true := by
  rw [List.all_eq_true] at h ⊢
  intro x hx
  obtain ⟨c, hc, rfl⟩ := List.mem_map.1 hx
  exact swap_hex c (h c hc)

theorem num_swap (l : List Int) (h : l.all isHex = true) : num (l.map swapC) = num l := by
  unfold num
  generalize (0 : Int) = n
  induction l generalizing n with
  | nil => rfl
  | cons c l ih =>
    simp only [List.all_cons, Bool.and_eq_true] at h
    simp only [List.map_cons, List.foldl_cons, swap_val c h.1]
    exact ih h.2 _

theorem split_law (a b : List Int) (p : Int) (hp : p = 16 ^ b.length % 4294967296) :
    (num a % 4294967296 * p % 4294967296 + num b % 4294967296) % 4294967296 = num (a ++ b) % 4294967296 := by
  subst hp
  rw [num_append, ← Int.mul_emod, ← Int.add_emod]

theorem pw_stop (k m : Nat) (h : k ≤ m) (hz : (16 ^ k % 4294967296 : Int) = 0) : (16 ^ m % 4294967296 : Int) = 0 := by
  obtain ⟨d, rfl⟩ := Nat.le.dest h
  rw [Int.pow_add, Int.mul_emod, hz, Int.zero_mul, Int.zero_emod]

theorem rowAt_grown {w w' : World} {a : Option Addr} {l : List Int} (hb : Below w.heap.size w w') (h : RowAt w a l) : RowAt w' a l := by
  intro hl
  have hlt := lt_of_row h hl
  exact rowAt_below hb hlt h hl

theorem rowAt_owns {w : World} {base g cap : Nat} {l : List Int} (h : w.ownsRow base 5 1 (.slice (some ⟨g, 0, none⟩) l.length cap) l.length (l.map (Value.int .u8))) : RowAt w (some ⟨g, 0, none⟩) l := by
  intro _
  refine ⟨g, 0, rfl, fun i hi => ?_⟩
  have := h.cellAt i (by omega)
  rw [Nat.zero_add, this]
  simp [List.getElem?_eq_getElem hi]

theorem info5 : (Try.prog.info? 5).map (fun i => (i.zero, i.size, i.bytes)) = some (some (.int .u8 0), 1, 1) := by kernel_rfl
theorem size5 : (Try.prog.info? 5).map (·.size) = some 1 := by kernel_rfl
theorem made_below {w w1 : World} (hg : w.grownBy w1 none) : Below w.heap.size w w1 := (Below.refl _ _).grown hg (Nat.le_refl _) (fun _ h => by cases h)

/-- The row while it is filled: the first k are done. -/
def Filling (wr : World) (g len : Nat) (l : List Int) (k : Nat) : Prop :=
  ∃ xs : List Value, wr.ownsRow g 5 1 (.slice (some ⟨g, 0, none⟩) len len) len xs ∧ xs.take k = ((l.take k).map swapC).map (Value.int .u8)

theorem filling_step {wr : World} {g len k : Nat} {l : List Int} (hl : l.length = len) (hk : k < len) (h : Filling wr g len l k) :
    Filling (wr.setCell ⟨g, k, none⟩ (.int .u8 (swapC (l.getD k 0)))) g len l (k + 1) := by
  obtain ⟨xs, ho, ht⟩ := h
  have hx : xs.length = len := by have := ho.1; omega
  refine ⟨_, (ho.stored k _).1, ?_⟩
  rw [take_snoc' l k (by omega), List.map_append, List.map_append, ← ht]
  rw [List.take_succ_eq_append_getElem (by simp; omega)]
  simp [List.take_set_of_le]

theorem filling_end {wr : World} {g len : Nat} {l : List Int} (hl : l.length = len) (h : Filling wr g len l len) : RowAt wr (some ⟨g, 0, none⟩) (l.map swapC) := by
  obtain ⟨xs, ho, ht⟩ := h
  have hx : xs.length = len := by have := ho.1; omega
  rw [List.take_of_length_le (by omega), List.take_of_length_le (by omega)] at ht
  subst ht
  refine rowAt_owns (base := g) (cap := len) ?_
  rw [List.length_map, hl]
  exact ho

theorem filling_cell {wr : World} {g len k : Nat} {l : List Int} (hk : k < len) (h : Filling wr g len l k) : (∃ v, wr.cell? ⟨g, k, none⟩ = some v) ∧ wr.frozen? ⟨g, k, none⟩ = false := by
  obtain ⟨xs, ho, ht⟩ := h
  have hx : xs.length = len := by have := ho.1; omega
  exact ⟨⟨xs[k]'(by omega), by rw [ho.cellAt k (by omega), List.getElem?_eq_getElem (by omega)]⟩, ho.frozenAt k⟩

set_option maxHeartbeats 1600000 in
theorem swapCase_any (a : Option Addr) (len cap : Nat) (l : List Int) (w : World) (hl : l.length = len) (hm : len ≤ 1048576) (hr : RowAt w a l) :
    Calls Try.prog 11 #[.slice a len cap] w fun e w' => e = .returned (.slice (some ⟨w.heap.size, 0, none⟩) len len) ∧ RowAt w' (some ⟨w.heap.size, 0, none⟩) (l.map swapC) ∧ Below w.heap.size w w' := by
  obtain ⟨i0, hi, hz0, hz1, hz2⟩ := info_parts info5
  have hM : len ≤ maxLen := by unfold maxLen; omega
  have HL : Hid (l.length = len) := hl
  have HR : Hid (RowAt w a l) := hr
  clear hl hr
  go_enter Try.func11, Try.ntmps11
  go_wp2_with (at_make; refine wpList_make_full _ rfl _ _ 22 rfl w.heap.size 5 i0 (.int .u8 0) 1 Try.underlying22 hi hz0 hz1 _ _ _ _ len rfl rfl rfl rfl (by rw [hz2]; omega) hM (Nat.le_refl _) ?_; intro w1 hown1 hgrow1; have hB1 := made_below hgrow1; have HF : Hid (Filling w1 w.heap.size len l 0) := ⟨_, hown1, by simp⟩; clear hown1 hgrow1)
  go_loopw [4, 5] (fun i _ wr => ∃ k : Nat, k ≤ len ∧ i = .int .i64 k ∧ Filling wr w.heap.size len l k ∧ Below w.heap.size w wr) (fun i _ _ => len - (intOf i).toNat)
  case atStart => exact ⟨0, Nat.zero_le _, rfl, HF.out, hB1⟩
  case round =>
    obtain ⟨k, hk, rfl, hfill, hB⟩ := hrel
    by_cases hlt : k < len
    · have hkl : k < l.length := by rw [HL.out]; exact hlt
      obtain ⟨b, off, ha, hc⟩ := HR.out (by omega)
      obtain ⟨c, hcd⟩ : ∃ c, c = l.getD k 0 := ⟨_, rfl⟩
      have hcell : wr.cell? ⟨b, off + k, none⟩ = some (.int .u8 c) := by
        rw [hcd, hB.cell (p := ⟨b, off + k, none⟩) (lt_of_row HR.out (by omega) ⟨b, off, none⟩ ha)]; exact hc k hkl
      subst ha
      have HC : Hid (c = l.getD k 0) := hcd
      obtain ⟨⟨v, hv⟩, hfz⟩ := filling_cell hlt hfill
      have HF2 : Hid (Filling wr w.heap.size len l k) := hfill
      clear hcd hc hfill HF hB1
      have h5 : (97 ≤ c ∧ c ≤ 102) ∨ (65 ≤ c ∧ c ≤ 70) ∨ c < 65 ∨ (70 < c ∧ c < 97) ∨ 102 < c := by omega
      have HS : Hid (Filling (wr.setCell ⟨w.heap.size, k, none⟩ (.int .u8 (swapC c))) w.heap.size len l (k + 1) ∧ Below w.heap.size w (wr.setCell ⟨w.heap.size, k, none⟩ (.int .u8 (swapC c)))) := by
        refine ⟨?_, hB.setCell (Nat.le_refl _) _⟩
        rw [HC.out]
        exact filling_step HL.out hlt HF2.out
      clear HF2 HC
      rcases h5 with ⟨h1, h2⟩ | ⟨h1, h2⟩ | h1 | ⟨h1, h2⟩ | h1
      · have e : swapC c = c - 32 := by unfold swapC; rw [if_pos ⟨h1, h2⟩]
        rw [e] at HS
        clear e
        go_wp2
        go_roundw
        case rel => exact ⟨k + 1, by omega, by go_num, HS.out.1, HS.out.2⟩
        case measure => simp [intOf]; omega
      · have e : swapC c = c + 32 := by unfold swapC; rw [if_neg (by omega), if_pos ⟨h1, h2⟩]
        rw [e] at HS
        clear e
        go_wp2
        go_roundw
        case rel => exact ⟨k + 1, by omega, by go_num, HS.out.1, HS.out.2⟩
        case measure => simp [intOf]; omega
      · have e : swapC c = c := by unfold swapC; rw [if_neg (by omega), if_neg (by omega)]
        rw [e] at HS
        clear e
        go_wp2
        go_roundw
        case rel => exact ⟨k + 1, by omega, by go_num, HS.out.1, HS.out.2⟩
        case measure => simp [intOf]; omega
      · have e : swapC c = c := by unfold swapC; rw [if_neg (by omega), if_neg (by omega)]
        rw [e] at HS
        clear e
        go_wp2
        go_roundw
        case rel => exact ⟨k + 1, by omega, by go_num, HS.out.1, HS.out.2⟩
        case measure => simp [intOf]; omega
      · have e : swapC c = c := by unfold swapC; rw [if_neg (by omega), if_neg (by omega)]
        rw [e] at HS
        clear e
        go_wp2
        go_roundw
        case rel => exact ⟨k + 1, by omega, by go_num, HS.out.1, HS.out.2⟩
        case measure => simp [intOf]; omega
    · have hge : len ≤ k := by omega
      go_wp2
      go_ret
      obtain rfl : k = len := by omega
      exact ⟨rfl, filling_end HL.out hfill, hB⟩
end Go.Proofs.Qxb6617803a
