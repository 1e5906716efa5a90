/-
  THE PLAIN MATHEMATICS OF THE LAW ON Filled's BOUNDS: which index is a node's last; how many nodes keep something; a rising list's greatest is its last.
-/
import Derived.Test.Qxb6616935aFillLaws
import Derived.Laws.BitsAllLaws
namespace Go.Proofs.Qxb6616935a
open Go.RowKit
set_option linter.unusedVariables false

/-- The last index below k at which xs holds x. -/
def lastIdx (xs : List Int) : Nat → Int → Option Nat
  | 0, _ => none
  | k + 1, x => if xs.getD k 0 = x then some k else lastIdx xs k x
theorem lastIdx_succ (xs : List Int) (k : Nat) (x : Int) : lastIdx xs (k + 1) x = if xs.getD k 0 = x then some k else lastIdx xs k x := rfl
theorem lastIdx_some (xs : List Int) : ∀ (k : Nat) (x : Int) (i : Nat), lastIdx xs k x = some i → i < k ∧ xs.getD i 0 = x
  | 0, _, _, h => by cases h
  | k + 1, x, i, h => by
    rw [lastIdx_succ] at h
    split at h
    · cases h; exact ⟨by omega, ‹_›⟩
    · have := lastIdx_some xs k x i h; exact ⟨by omega, this.2⟩
theorem lastIdx_mem (xs : List Int) : ∀ (k i : Nat), i < k → ∃ j, lastIdx xs k (xs.getD i 0) = some j
  | 0, i, h => absurd h (by omega)
  | k + 1, i, h => by
    rw [lastIdx_succ]
    split
    · exact ⟨k, rfl⟩
    · rename_i hne
      exact lastIdx_mem xs k i (by
        by_cases e : i = k
        · subst e; exact absurd rfl hne
        · omega)

/-- What the store keeps behind k calls of ZZKeep. -/
def keptTo (xs : List Int) (L : List (List Int)) : Nat → List (Int × List Int)
  | 0 => []
  | k + 1 => keptTo xs L k ++ [(xs.getD k 0, L.getD k [])]
theorem keptTo_length (xs : List Int) (L : List (List Int)) : ∀ k, (keptTo xs L k).length = k
  | 0 => rfl
  | k + 1 => by simp [keptTo, keptTo_length xs L k]
theorem lastOf_keptTo (xs : List Int) (L : List (List Int)) : ∀ (k : Nat) (x : Int), lastOf (keptTo xs L k) x = (lastIdx xs k x).map (fun i => L.getD i [])
  | 0, x => rfl
  | k + 1, x => by
    rw [keptTo, lastOf_snoc, lastIdx_succ, lastOf_keptTo xs L k x]
    split <;> rfl

/-! ### the map 'last' -/
def LastMap (xs : List Int) (D : DataW Unit) (k : Nat) : Prop := ∀ x, match lastIdx xs k x with
  | some i => ∀ z, D.atKey (.int .u64 x) z = .lit (.int .i64 i)
  | none => True
theorem lastMap_start (xs : List Int) (D : DataW Unit) : LastMap xs D 0 := fun x => trivial
theorem lastMap_step {xs : List Int} {D : DataW Unit} {k : Nat} (h : LastMap xs D k) (hD : Maps.IsMap D) : LastMap xs (D.put (.int .u64 (xs.getD k 0)) (.lit (.int .i64 k))) (k + 1) := by
  intro x
  rw [lastIdx_succ]
  by_cases e : xs.getD k 0 = x
  · rw [if_pos e]
    subst e
    exact fun z => Maps.atKey_put_same hD (isKey_u64 _) _ z
  · rw [if_neg e]
    have ne : Lit.int .u64 x ≠ .int .u64 (xs.getD k 0) := fun e' => e (by cases e'; rfl)
    have := h x
    split at this
    · exact fun z => by rw [Maps.atKey_put_other ne]; exact this z
    · trivial
theorem lastMap_at {xs : List Int} {D : DataW Unit} {n i j : Nat} (h : LastMap xs D n) (hj : lastIdx xs n (xs.getD i 0) = some j) (z : DataW Unit) : D.atKey (.int .u64 (xs.getD i 0)) z = .lit (.int .i64 j) := by
  have := h (xs.getD i 0)
  rw [hj] at this
  exact this z

/-! ### how many nodes keep something -/
/-- Index i is its node's last and keeps something. -/
def sel (xs : List Int) (L : List (List Int)) (n i : Nat) : Bool := decide (lastIdx xs n (xs.getD i 0) = some i) && decide (0 < (L.getD i []).length)
def selTo (xs : List Int) (L : List (List Int)) (n : Nat) : Nat → Nat
  | 0 => 0
  | k + 1 => if sel xs L n k then selTo xs L n k + 1 else selTo xs L n k
theorem selTo_le (xs : List Int) (L : List (List Int)) (n : Nat) : ∀ k, selTo xs L n k ≤ k
  | 0 => Nat.le_refl _
  | k + 1 => by
    have := selTo_le xs L n k
    unfold selTo
    split <;> omega
theorem selTo_yes {xs : List Int} {L : List (List Int)} {n k : Nat} (h1 : lastIdx xs n (xs.getD k 0) = some k) (h2 : 0 < (L.getD k []).length) : selTo xs L n (k + 1) = selTo xs L n k + 1 := by
  have : sel xs L n k = true := by unfold sel; rw [decide_eq_true h1, decide_eq_true h2]; rfl
  rw [selTo, if_pos this]
theorem selTo_no {xs : List Int} {L : List (List Int)} {n k : Nat} (h : lastIdx xs n (xs.getD k 0) ≠ some k ∨ (L.getD k []).length = 0) : selTo xs L n (k + 1) = selTo xs L n k := by
  have : ¬ sel xs L n k = true := by
    unfold sel
    intro e
    simp only [Bool.and_eq_true, decide_eq_true_eq] at e
    rcases h with h | h
    · exact h e.1
    · omega
  rw [selTo, if_neg this]

/-- 'refilled' with the first k chosen nodes struck. -/
def struck (xs : List Int) (L : List (List Int)) (n : Nat) (D : DataW Unit) : Nat → DataW Unit
  | 0 => D
  | k + 1 => if sel xs L n k then (struck xs L n D k).del (.int .u64 (xs.getD k 0)) else struck xs L n D k

theorem size_zero {D : DataW Unit} (hD : Maps.IsMap D) (h : ∀ k, Maps.has D k = false) (hk : ∀ es, D = .map es → ∀ p ∈ es, WideAt.IsKeyLit p.1) : Maps.size D = 0 := by
  obtain ⟨es, rfl⟩ := hD
  match es with
  | [] => rfl
  | p :: r =>
    have h1 := h p.1
    have h2 := hk _ rfl p (by simp)
    rw [Maps.has_eq] at h1
    simp only [List.any_cons, Bool.or_eq_false_iff] at h1
    have : p.1.sameKey p.1 = true := by
      generalize p.1 = q at h2
      cases q <;> simp_all [WideAt.IsKeyLit, Lit.sameKey]
    rw [this] at h1
    cases h1.1

def KeysOk (D : DataW Unit) : Prop := ∀ es, D = .map es → ∀ p ∈ es, WideAt.IsKeyLit p.1
theorem KeysOk.del {D : DataW Unit} (h : KeysOk D) (hD : Maps.IsMap D) (k : Lit) : KeysOk (D.del k) := by
  obtain ⟨es, rfl⟩ := hD
  intro es' he p hp
  have : (DataW.map es).del k = .map (es.filter fun q => !q.1.sameKey k) := rfl
  rw [this] at he
  cases he
  exact h es rfl p (List.mem_filter.1 hp).1

theorem sel_iff (xs : List Int) (L : List (List Int)) (n i : Nat) : sel xs L n i = true ↔ lastIdx xs n (xs.getD i 0) = some i ∧ 0 < (L.getD i []).length := by
  unfold sel; simp

theorem ref_has {xs : List Int} {L : List (List Int)} {n : Nat} {D : DataW Unit} (hR : RefPart D (fun _ => false) (keptTo xs L n)) (hw : ∀ i, i < n → (Lit.int .u64 (xs.getD i 0)).wf = true) (k : Lit) :
    Maps.has D k = true ↔ ∃ i, i < n ∧ sel xs L n i = true ∧ k = .int .u64 (xs.getD i 0) := by
  constructor
  · intro h
    obtain ⟨x, l, rfl, hx, hl, hp, _⟩ := hR.known k h
    rw [lastOf_keptTo] at hl
    cases hi : lastIdx xs n x with
    | none => rw [hi] at hl; cases hl
    | some i =>
      rw [hi] at hl
      obtain ⟨h1, h2⟩ := lastIdx_some xs n x i hi
      simp only [Option.map_some, Option.some.injEq] at hl
      exact ⟨i, h1, (sel_iff _ _ _ _).2 ⟨by rw [h2]; exact hi, by rw [hl]; exact hp⟩, by rw [h2]⟩
  · rintro ⟨i, h1, h2, rfl⟩
    obtain ⟨h3, h4⟩ := (sel_iff _ _ _ _).1 h2
    exact (hR.holds _ _ (hw i h1) (by rw [lastOf_keptTo, h3]; rfl) h4 rfl).1

theorem struck_inv {xs : List Int} {L : List (List Int)} {n : Nat} {D : DataW Unit} (hT : Maps.Tidy D) (hK : KeysOk D) (hR : RefPart D (fun _ => false) (keptTo xs L n)) (hw : ∀ i, i < n → (Lit.int .u64 (xs.getD i 0)).wf = true) :
    ∀ k, k ≤ n → Maps.Tidy (struck xs L n D k) ∧ KeysOk (struck xs L n D k) ∧ Maps.size (struck xs L n D k) + selTo xs L n k = Maps.size D ∧
      ∀ q, Maps.has (struck xs L n D k) q = true ↔ Maps.has D q = true ∧ ∀ i, i < k → sel xs L n i = true → q ≠ .int .u64 (xs.getD i 0)
  | 0, _ => ⟨hT, hK, rfl, fun q => ⟨fun h => ⟨h, fun i hi => absurd hi (by omega)⟩, fun h => h.1⟩⟩
  | k + 1, hk => by
    obtain ⟨i1, i2, i3, i4⟩ := struck_inv hT hK hR hw k (by omega)
    by_cases hs : sel xs L n k = true
    · have e1 : struck xs L n D (k + 1) = (struck xs L n D k).del (.int .u64 (xs.getD k 0)) := by rw [struck, if_pos hs]
      have e2 : selTo xs L n (k + 1) = selTo xs L n k + 1 := by rw [selTo, if_pos hs]
      have hh : Maps.has (struck xs L n D k) (.int .u64 (xs.getD k 0)) = true := by
        refine (i4 _).2 ⟨(ref_has hR hw _).2 ⟨k, by omega, hs, rfl⟩, fun i hi hsi e => ?_⟩
        have e' : xs.getD k 0 = xs.getD i 0 := by injection e
        have a := ((sel_iff _ _ _ _).1 hs).1
        have b := ((sel_iff _ _ _ _).1 hsi).1
        rw [e', b] at a
        cases a
        omega
      have hsz := Maps.size_del (k := .int .u64 (xs.getD k 0)) i1
      rw [if_pos hh] at hsz
      refine ⟨by rw [e1]; exact i1.del _, by rw [e1]; exact i2.del i1.isMap _, by rw [e1, e2]; omega, fun q => ?_⟩
      rw [e1]
      by_cases eq : q = .int .u64 (xs.getD k 0)
      · subst eq
        rw [Maps.has_del_same]
        exact ⟨(fun h => by cases h), (fun h => absurd rfl (h.2 k (by omega) hs))⟩
      · rw [Maps.has_del_other eq, i4]
        refine ⟨fun h => ⟨h.1, fun i hi hsi => ?_⟩, fun h => ⟨h.1, fun i hi hsi => h.2 i (by omega) hsi⟩⟩
        by_cases e : i = k
        · subst e; exact eq
        · exact h.2 i (by omega) hsi
    · have e1 : struck xs L n D (k + 1) = struck xs L n D k := by rw [struck, if_neg hs]
      have e2 : selTo xs L n (k + 1) = selTo xs L n k := by rw [selTo, if_neg hs]
      refine ⟨by rw [e1]; exact i1, by rw [e1]; exact i2, by rw [e1, e2]; exact i3, fun q => ?_⟩
      rw [e1, i4]
      refine ⟨fun h => ⟨h.1, fun i hi hsi => ?_⟩, fun h => ⟨h.1, fun i hi hsi => h.2 i (by omega) hsi⟩⟩
      by_cases e : i = k
      · subst e; exact absurd hsi hs
      · exact h.2 i (by omega) hsi

/-- len(refilled) is how many nodes keep something. -/
theorem size_ref {xs : List Int} {L : List (List Int)} {n : Nat} {D : DataW Unit} (hC : Maps.Canon D) (hR : RefPart D (fun _ => false) (keptTo xs L n)) (hw : ∀ i, i < n → (Lit.int .u64 (xs.getD i 0)).wf = true) :
    Maps.size D = selTo xs L n n := by
  obtain ⟨es, rfl, hp, hk⟩ := hC
  have hT : Maps.Tidy (.map es : DataW Unit) := ⟨es, rfl, Maps.apart_of_rising hp⟩
  have hK : KeysOk (.map es : DataW Unit) := fun es' e p hp' => by cases e; exact hk p hp'
  obtain ⟨i1, i2, i3, i4⟩ := struck_inv hT hK hR hw n (Nat.le_refl _)
  have hz := size_zero i1.isMap (fun q => by
    cases hq : Maps.has (struck xs L n (.map es) n) q with
    | false => rfl
    | true =>
      obtain ⟨h1, h2⟩ := (i4 q).1 hq
      obtain ⟨i, h3, h4, h5⟩ := (ref_has hR hw q).1 h1
      exact absurd h5 (h2 i h3 h4)) i2
  omega

/-! ### a rising list -/
def Asc (l : List Int) : Prop := ∀ j, j + 1 < l.length → l.getD j 0 < l.getD (j + 1) 0
theorem next_pred (v : Int) (h0 : 0 ≤ v) (h1 : v < 18446744073709551616) : IntKind.u64.wrap (IntKind.u64.wrap (v + 1) - 1) = v := by
  rw [IntKind.wrap_u64, IntKind.wrap_u64]; omega
end Go.Proofs.Qxb6616935a
