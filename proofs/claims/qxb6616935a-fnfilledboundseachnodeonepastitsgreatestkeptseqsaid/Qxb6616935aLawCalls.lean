/-
  THE LAW's OTHER CALLEES BY CONTRACTS; the law's arguments as the walks take them.
-/
import Derived.Test.Qxb6616935aLawMath
import Derived.Test.Qxb6616935aFilled
import Derived.WalkSpells
namespace Go.Proofs.Qxb6616935a
open Go.RowKit
set_option linter.unusedVariables false

theorem run_makeMap_hint {t k e : TypeId} (h : Try.prog.underlying t = some (.map k e)) (q : IntKind) (n : Int) (w : World) : (Instr.makeMap t (some (.int q n))).run Try.prog w = .ok (.map (some w.heap.size)) (w.alloc (.map #[] 0)) := by
  simp [Instr.makeMap, run_underlying h, asInt, asIntOf]

/-- A slice of rows, each its own length. -/
def Rows2 (w : World) (a : Option Addr) (L : List (List Int)) : Prop :=
  0 < L.length → ∃ b off, a = some ⟨b, off, none⟩ ∧ ∀ i, i < L.length → ∃ ai ci, w.cell? ⟨b, off + i, none⟩ = some (.slice ai (L.getD i []).length ci) ∧ RowAt w ai (L.getD i [])

theorem setRefilled_any {base s : Nat} {r : Option Nat} {G : List (Int × List Int)} (m : Option Nat) (w : World) (hks : KS base w s r G) :
    Calls Try.prog 13 #[.pointer (some ⟨s, 0, none⟩), .map m] w fun e w' => e = .returned (.tuple #[]) ∧ KS base w' s m G ∧ w.grownBy w' (some s) := by
  obtain ⟨hbs, hks⟩ := hks
  have hrf : w.cell? ⟨s, 4873, none⟩ = some (.map r) := by
    rcases hks with ⟨h, _⟩ | ⟨_, _, _, h, _⟩ <;> exact h.refilled
  have hfz : w.frozen? ⟨s, 4873, none⟩ = false := by
    rcases hks with ⟨h, _⟩ | ⟨_, _, _, h, _⟩ <;> exact h.free _
  have HKS : Hid ((StoreAt w s none r ∧ G = []) ∨ ∃ b D, base ≤ b ∧ StoreAt w s (some b) r ∧ w.ownsMap Try.prog 22 ptrElem b G.length D ∧ Reads w s D G) := hks
  clear hks
  go_enter Try.func13, Try.ntmps13
  go_wp2
  go_end0
  have hg : w.grownBy (w.setCell ⟨s, 4873, none⟩ (.map m)) (some s) := grown_set (World.grownBy.refl _ _) _
  refine ⟨rfl, ⟨hbs, ?_⟩, hg⟩
  rcases HKS.out with ⟨h, hG⟩ | ⟨b, D, hbb, h, ho, hr⟩
  · exact .inl ⟨h.setRefilled m, hG⟩
  · obtain ⟨cs, e, fr, hsc⟩ := cells_of_cell h.mu
    exact .inr ⟨b, D, hbb, h.setRefilled m, ho.kept hg (fun e' => by cases e'; exact map_not_cells ho _ _ _ hsc), hr.keeps (Keeps.store (Keeps.refl s w) hg)⟩

theorem refilled_any {base s : Nat} {r : Option Nat} {G : List (Int × List Int)} (w : World) (hks : KS base w s r G) :
    Calls Try.prog 15 #[.pointer (some ⟨s, 0, none⟩)] w fun e w' => e = .returned (.map r) ∧ w' = w := by
  have hrf : w.cell? ⟨s, 4873, none⟩ = some (.map r) := by
    rcases hks.2 with ⟨h, _⟩ | ⟨_, _, _, h, _⟩ <;> exact h.refilled
  clear hks
  go_enter Try.func15, Try.ntmps15
  go_wp2
  go_ret
  exact ⟨rfl, rfl⟩

/-- It returns true or false. -/
def AnyBool (e : Ending) : Prop := ∃ bo, e = .returned (.bool bo)
theorem anyBool (b : Bool) : AnyBool (.returned (.bool b)) := ⟨b, rfl⟩

set_option maxRecDepth 100000 in
set_option maxHeartbeats 1600000 in
/-- Whatever it answers: it answers, and nothing turns. -/
theorem bytes1_any (a0 a1 a2 a3 : Option Addr) (n0 c0 n1 c1 n2 c2 n3 c3 : Nat) (L : List (List Int)) (w : World) (hm : n1 ≤ maxLen) (hl : L.length = n1) (hr : Rows2 w a1 L) :
    Calls Try.prog 10 #[.slice a0 n0 c0, .slice a1 n1 c1, .slice a2 n2 c2, .slice a3 n3 c3] w fun e w' => AnyBool e ∧ w' = w := by
  unfold maxLen at hm
  have HL : Hid (L.length = n1) := hl
  have HR : Hid (Rows2 w a1 L) := hr
  clear hl hr
  go_enter Try.func10, Try.ntmps10
  go_wp2
  all_goals try (go_ret; exact ⟨anyBool _, rfl⟩)
  go_loop [9, 10] (fun z i => ∃ (k : Nat) (y : Int), k ≤ n1 ∧ i = .int .i64 k ∧ z = .int .i64 y) (fun _ i => n1 - (intOf i).toNat)
  case atStart => exact ⟨0, _, Nat.zero_le _, rfl, rfl⟩
  case round =>
    obtain ⟨k, y, hk, rfl, rfl⟩ := hrel
    by_cases hlt : k < n1
    · obtain ⟨b, off, ha, hc⟩ := HR.out (by rw [HL.out]; omega)
      obtain ⟨ai, ci, hcell, _⟩ := hc k (by rw [HL.out]; exact hlt)
      obtain ⟨m, hm'⟩ : ∃ m, m = (L.getD k []).length := ⟨_, rfl⟩
      rw [← hm'] at hcell
      subst ha
      clear hm' hc
      go_wp2
      all_goals try (go_ret; exact ⟨anyBool _, rfl⟩)
      go_round
      case rel => exact ⟨k + 1, _, by omega, by go_num, rfl⟩
      case measure => simp [intOf]; omega
    · have hge : n1 ≤ k := by omega
      go_wp2
      all_goals (go_ret; exact ⟨anyBool _, rfl⟩)
end Go.Proofs.Qxb6616935a
