/-
  WHAT Filled DOES TO 'refilled', as a function of what is still to come of the range over 'kept': words and steps. No walk here.
-/
import Derived.Test.Qxb6616935aKeep
import Derived.Maps.RangeWalk
namespace Go.Proofs.Qxb6616935a
open Go.RowKit
set_option linter.unusedVariables false

/-- One past the last number of a list (as a uint64). -/
def nextOf (l : List Int) : Int := IntKind.u64.wrap (l.getD (l.length - 1) 0 + 1)

/-- 'refilled' (its datum Dr) while the range is under way: it holds what G says of those nodes that are no longer to come. -/
structure RefPart (Dr : DataW Unit) (left : Lit → Bool) (G : List (Int × List Int)) : Prop where
  known : ∀ k, Maps.has Dr k = true → ∃ x l, k = .int .u64 x ∧ (Lit.int .u64 x).wf = true ∧ lastOf G x = some l ∧ 0 < l.length ∧ left k = false
  holds : ∀ x l, (Lit.int .u64 x).wf = true → lastOf G x = some l → 0 < l.length → left (.int .u64 x) = false → Maps.has Dr (.int .u64 x) = true ∧ ∀ z, Dr.atKey (.int .u64 x) z = .lit (.int .u64 (nextOf l))

theorem sameKey_self (x : Int) : (Lit.int .u64 x).sameKey (.int .u64 x) = true := by simp [Lit.sameKey]
theorem sameKey_other {x y : Int} (h : x ≠ y) : (Lit.int .u64 x).sameKey (.int .u64 y) = false := Maps.sameKey_ne (fun e => h (by cases e; rfl))

theorem RefPart.start {w : World} {s : Nat} {D : DataW Unit} {G : List (Int × List Int)} (h : Reads w s D G) : RefPart (.map []) (Maps.has D) G :=
  ⟨(fun k hk => by cases hk), (fun x l hx hl _ hz => by rw [(h.holds x l hx hl).1] at hz; cases hz)⟩
theorem RefPart.empty : RefPart (.map []) (fun _ => false) [] :=
  ⟨(fun k hk => by cases hk), (fun x l hx hl _ hz => by cases hl)⟩

theorem RefPart.put {Dr : DataW Unit} {left : Lit → Bool} {G : List (Int × List Int)} {x : Int} {l : List Int} (h : RefPart Dr left G) (hD : Maps.IsMap Dr) (hx : (Lit.int .u64 x).wf = true) (hl : lastOf G x = some l) (hpos : 0 < l.length) :
    RefPart (Dr.put (.int .u64 x) (.lit (.int .u64 (nextOf l)))) (fun z => left z && !z.sameKey (.int .u64 x)) G := by
  refine ⟨fun k hk => ?_, fun y m hy hm hmp hz => ?_⟩
  · by_cases e : k = .int .u64 x
    · subst e
      exact ⟨x, l, rfl, hx, hl, hpos, by simp [sameKey_self]⟩
    · rw [Maps.has_put_other e] at hk
      obtain ⟨y, m, rfl, hy, hm, hmp, hleft⟩ := h.known k hk
      exact ⟨y, m, rfl, hy, hm, hmp, by simp [hleft]⟩
  · by_cases e : y = x
    · subst e
      rw [hl] at hm
      cases hm
      exact ⟨Maps.has_put_same hD (isKey_u64 _) _, fun z => Maps.atKey_put_same hD (isKey_u64 _) _ z⟩
    · have ne : Lit.int .u64 y ≠ .int .u64 x := fun e' => e (by cases e'; rfl)
      rw [sameKey_other e] at hz
      have := h.holds y m hy hm hmp (by simpa using hz)
      exact ⟨by rw [Maps.has_put_other ne]; exact this.1, fun z => by rw [Maps.atKey_put_other ne]; exact this.2 z⟩

theorem RefPart.skip {Dr : DataW Unit} {left : Lit → Bool} {G : List (Int × List Int)} {x : Int} {l : List Int} (h : RefPart Dr left G) (hl : lastOf G x = some l) (hz : l.length = 0) :
    RefPart Dr (fun z => left z && !z.sameKey (.int .u64 x)) G := by
  refine ⟨fun k hk => ?_, fun y m hy hm hmp hz' => ?_⟩
  · obtain ⟨y, m, rfl, hy, hm, hmp, hleft⟩ := h.known k hk
    exact ⟨y, m, rfl, hy, hm, hmp, by simp [hleft]⟩
  · by_cases e : y = x
    · subst e
      rw [hl] at hm
      cases hm
      omega
    · rw [sameKey_other e] at hz'
      exact h.holds y m hy hm hmp (by simpa using hz')

theorem RefPart.done {Dr : DataW Unit} {left : Lit → Bool} {G : List (Int × List Int)} (h : RefPart Dr left G) (hl : ∀ k, left k = false) : RefPart Dr (fun _ => false) G :=
  ⟨fun k hk => by obtain ⟨x, l, a, b, c, d, _⟩ := h.known k hk; exact ⟨x, l, a, b, c, d, rfl⟩, fun x l a b c _ => h.holds x l a b c (hl _)⟩

theorem iter_not_cells {w : World} {P : Program} {k : TypeId} {R : Value → Option (DataW Unit × List MemPlace)} {b r n : Nat} {D : DataW Unit} {left : Lit → Bool} {cnt : Nat} (h : w.ranges P k R b r n D left cnt) : ∀ cs e fr, w.heap[r]? ≠ some (.cells cs e fr) := by
  obtain ⟨es, clock, since, seen, c0, _, _, _, _, hr, _⟩ := h
  intro cs e fr he
  rw [he] at hr
  cases hr

/-- THE STEP of the range over 'kept'. -/
theorem wpList_next_kept {w : World} {ops : Array Oper} {rest : List Oper} {o : Oper} {a : Act} {Q : Exit → Act → World → Prop} (hg : o.guard = none) (it : Operand) (hop : o.op = Op.next it false) (b r n s : Nat) (D : DataW Unit) (G : List (Int × List Int)) (left : Lit → Bool) (cnt : Nat)
    (hit : a.eval it = .pointer (some ⟨r, 0, none⟩)) (h : w.ranges Try.prog 22 ptrElem b r n D left cnt) (hR : Reads w s D G)
    (hDone : cnt = 0 → (∀ kl, left kl = false) → wpList Try.prog ops Q rest (a.put o.dst (.tuple #[.bool false])) w)
    (hMore : ∀ (x : Int) (g : Nat) (l : List Int) (w' : World) (cnt' : Nat), (Lit.int .u64 x).wf = true → Hid (lastOf G x = some l) → KeptAt w' s g l → w'.ranges Try.prog 22 ptrElem b r n D (fun z => left z && !z.sameKey (.int .u64 x)) cnt' → cnt' < cnt →
      w.grownBy w' (some r) → Hid (w'.heap.size = w.heap.size) → (Instr.entry (.pointer (some ⟨r, 0, none⟩))).run Try.prog w' = .ok (.tuple #[.int .u64 x, .pointer (some ⟨g, 0, none⟩)]) w' → wpList Try.prog ops Q rest (a.put o.dst (.tuple #[.bool true, .int .u64 x, .pointer (some ⟨g, 0, none⟩)])) w') :
    wpList Try.prog ops Q (o :: rest) a w := by
  refine wpList_next_ranges w hg it hop 22 law22 ptrElem (Value.int .u64) (fun g : Nat => Value.pointer (some ⟨g, 0, none⟩)) (fun key kl h => by obtain ⟨x, rfl, _⟩ := Maps.keyOf_int_inv Try.underlying22 h; exact ⟨x, rfl⟩)
    (fun v y h => by obtain ⟨g, rfl, _⟩ := ptrElem_inv h; exact ⟨g, rfl⟩) b r n D left cnt hit h hDone ?_
  intro x c kl y w' cnt' hkey hlk hv hat hrg hlt hgr hsz hen
  obtain ⟨x', ex, rfl, hwx⟩ := Maps.keyOf_int_inv Try.underlying22 hkey
  cases ex
  obtain ⟨c', ec, rfl⟩ := ptrElem_inv hv
  have ec' : c = c' := by simpa using ec
  subst ec'
  obtain ⟨x', ex, _, l, hl⟩ := hR.known _ (Maps.has_true_of_atKey hat)
  cases ex
  obtain ⟨_, g, hg', hk⟩ := hR.holds x l hwx hl
  have eg : c = g := by
    have e1 := hat (.map [])
    rw [hg' (.map [])] at e1
    simp at e1
    omega
  subst eg
  exact hMore x c l w' cnt' hwx hl (hk.keeps ((Keeps.refl s w).grown hgr (fun b' e => by cases e; exact iter_not_cells h))) hrg hlt hgr hsz hen
end Go.Proofs.Qxb6616935a
