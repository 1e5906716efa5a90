/-
  Limits AS PLAIN DATA; ZZjoined, zzAddLimits, zzAddKey, zzAddKeys: whatever they answer, they answer, and what lay there lies unturned.
-/
import Derived.Test.Qxb6618931aBase
import Derived.Deep.RegionHeld3
namespace Go.Proofs.Qxb6618931a
open Go.RowKit
set_option linter.unusedVariables false

/-- What a Limits holds. -/
structure Lim where
  a1 : Option Addr
  n1 : Nat
  c1 : Nat
  a2 : Option Addr
  n2 : Nat
  c2 : Nat
  T : Nat → ByteArray × ByteArray
  loc : ByteArray
  a3 : Option Addr
  n3 : Nat
  c3 : Nat
  bt : Bool
/-- Its slices can be read. -/
structure LimOK (w : World) (l : Lim) : Prop where
  m1 : l.n1 ≤ 9223372036854775807
  m2 : l.n2 ≤ 9223372036854775807
  m3 : l.n3 ≤ 9223372036854775807
  r1 : Strs w l.a1 l.n1
  r2 : Spans w l.a2 l.n2 l.T
  r3 : Strs w l.a3 l.n3
theorem LimOK.below {w w' : World} {l : Lim} (hb : Below w.heap.size w w') (h : LimOK w l) : LimOK w' l := ⟨h.m1, h.m2, h.m3, h.r1.below hb, h.r2.below hb, h.r3.below hb⟩

/-- The five cells of a Limits. -/
structure LimAt (w : World) (b off : Nat) (l : Lim) : Prop where
  c0 : w.cell? ⟨b, off, none⟩ = some (.slice l.a1 l.n1 l.c1)
  c1 : w.cell? ⟨b, off + 1, none⟩ = some (.slice l.a2 l.n2 l.c2)
  c2 : w.cell? ⟨b, off + 2, none⟩ = some (.string l.loc)
  c3 : w.cell? ⟨b, off + 3, none⟩ = some (.slice l.a3 l.n3 l.c3)
  c4 : w.cell? ⟨b, off + 4, none⟩ = some (.bool l.bt)
theorem LimAt.below {w w' : World} {B b off : Nat} {l : Lim} (hb : Below B w w') (hB : b < B) (h : LimAt w b off l) : LimAt w' b off l :=
  ⟨(hb.cell (p := ⟨b, off, none⟩) hB).trans h.c0, (hb.cell (p := ⟨b, off + 1, none⟩) hB).trans h.c1, (hb.cell (p := ⟨b, off + 2, none⟩) hB).trans h.c2, (hb.cell (p := ⟨b, off + 3, none⟩) hB).trans h.c3, (hb.cell (p := ⟨b, off + 4, none⟩) hB).trans h.c4⟩

theorem joined_any (a : Option Addr) (n c : Nat) (j : Bool) (w : World) : Calls Try.prog 20 #[.agg #[.slice a n c, .bool j]] w fun e w' => e = .returned (.bool j) ∧ Below w.heap.size w w' := by
  go_enter Try.func20, Try.ntmps20
  go_wp2
  go_ret
  exact ⟨rfl, (Below.refl _ _).alloc (Nat.le_refl _) _⟩

set_option maxRecDepth 100000 in
set_option maxHeartbeats 1600000 in
theorem addLimits_any (x : Int) (l : Lim) (w : World) (h : LimOK w l) :
    Calls Try.prog 5 #[.int .i64 x, .agg #[.slice l.a1 l.n1 l.c1, .slice l.a2 l.n2 l.c2, .string l.loc, .slice l.a3 l.n3 l.c3, .bool l.bt]] w fun e w' => AnyInt e ∧ Below w.heap.size w w' := by
  obtain ⟨a1, n1, c1, a2, n2, c2, T, loc, a3, n3, c3, bt⟩ := l
  have H : Hid (LimOK w ⟨a1, n1, c1, a2, n2, c2, T, loc, a3, n3, c3, bt⟩) := h
  clear h
  go_enter Try.func5, Try.ntmps5
  go_wp2_with fail
  have HBX : Hid (LimAt (w.alloc (.cells #[.slice a1 n1 c1, .slice a2 n2 c2, .string loc, .slice a3 n3 c3, .bool bt] 25)) w.heap.size 0 ⟨a1, n1, c1, a2, n2, c2, T, loc, a3, n3, c3, bt⟩) := ⟨by simp [go_sem], by simp [go_sem], by simp [go_sem], by simp [go_sem], by simp [go_sem]⟩
  have HB0 : Hid (Below w.heap.size w (w.alloc (.cells #[.slice a1 n1 c1, .slice a2 n2 c2, .string loc, .slice a3 n3 c3, .bool bt] 25))) := (Below.refl _ _).alloc (Nat.le_refl _) _
  refine (add_any _ _ _).mono ?_
  rintro e w' ⟨⟨z1, rfl⟩, hw⟩
  subst w'
  go_wp2_with fail
  refine (add_any _ _ _).mono ?_
  rintro e w' ⟨⟨z2, rfl⟩, hw⟩
  subst w'
  go_wp2_with fail
  refine (addStrs_any _ _ _ _ _ H.out.m1 (by exact H.out.r1.below HB0.out)).mono ?_
  rintro e w' ⟨⟨z3, rfl⟩, hw⟩
  subst w'
  go_wp2_with fail
  · go_ret
    exact ⟨anyInt _, HB0.out⟩
  go_loopw [0, 5] (fun t i wr => ∃ (k : Nat) (y : Int), k ≤ n2 ∧ i = .int .i64 k ∧ t = .int .i64 y ∧ LimAt wr w.heap.size 0 ⟨a1, n1, c1, a2, n2, c2, T, loc, a3, n3, c3, bt⟩ ∧ Below w.heap.size w wr) (fun _ i _ => n2 - (intOf i).toNat)
  case atStart => exact ⟨0, _, Nat.zero_le _, rfl, rfl, HBX.out, HB0.out⟩
  case round =>
    clear HBX HB0
    obtain ⟨k, y, hk, rfl, rfl, hat, hB⟩ := hrel
    have HAT : Hid (LimAt wr w.heap.size 0 ⟨a1, n1, c1, a2, n2, c2, T, loc, a3, n3, c3, bt⟩) := hat
    have e1 : wr.cell? ⟨w.heap.size, 1, none⟩ = some (.slice a2 n2 c2) := hat.c1
    have e3 : wr.cell? ⟨w.heap.size, 3, none⟩ = some (.slice a3 n3 c3) := hat.c3
    clear hat
    by_cases hlt : k < n2
    · obtain ⟨b0, o0, ha, hc⟩ := H.out.r2 (by exact Nat.lt_of_le_of_lt (Nat.zero_le _) hlt)
      obtain ⟨k0, k1⟩ := hc k hlt
      obtain ⟨s0, hs0⟩ : ∃ s, s = (T k).1 := ⟨_, rfl⟩
      obtain ⟨s1, hs1⟩ : ∃ s, s = (T k).2 := ⟨_, rfl⟩
      replace k0 : w.cell? ⟨b0, o0 + k * 2, none⟩ = some (.string s0) := by rw [hs0]; exact k0
      replace k1 : w.cell? ⟨b0, o0 + k * 2 + 1, none⟩ = some (.string s1) := by rw [hs1]; exact k1
      have f0 : wr.cell? ⟨b0, o0 + k * 2, none⟩ = some (.string s0) := (hB.cell (p := ⟨b0, o0 + k * 2, none⟩) (World.block_lt_of_cell? _ _ k0)).trans k0
      have f1 : wr.cell? ⟨b0, o0 + k * 2 + 1, none⟩ = some (.string s1) := (hB.cell (p := ⟨b0, o0 + k * 2 + 1, none⟩) (World.block_lt_of_cell? _ _ k1)).trans k1
      have g1 : (k : Int) < (n2 : Int) := by omega
      have hm2 : n2 ≤ 9223372036854775807 := H.out.m2
      simp only at ha
      subst ha
      clear hc k0 k1 hs0 hs1
      go_wp2_with fail
      go_quiet ((go_at_call 15; exact Calls.quiet_of_same (add_val _ _ _)))
      go_wp2_with fail
      · go_ret
        exact ⟨anyInt _, below_drewN hB _⟩
      exact ⟨⟨k + 1, _, by omega, by go_num, rfl, HAT.out.below (below_drewN (Below.refl (w.heap.size + 1) wr) _) (Nat.lt_succ_self _), below_drewN hB _⟩, by simp [intOf]; omega⟩
    · have hge : ¬ (k : Int) < (n2 : Int) := by omega
      go_wp2_with fail
      refine (addStrs_any _ _ _ _ _ H.out.m3 (by exact H.out.r3.below hB)).mono ?_
      rintro e w' ⟨⟨z4, rfl⟩, hw⟩
      subst w'
      go_wp2_with fail
      go_ret
      exact ⟨anyInt _, hB⟩

/-- A scope that is not nil points to a Limits that can be read. -/
def ScopeOK (w : World) (sc : Option Addr) (l : Lim) : Prop := ∀ ad, sc = some ad → ∃ b off, ad = ⟨b, off, none⟩ ∧ LimAt w b off l ∧ LimOK w l
theorem ScopeOK.below {w w' : World} {sc : Option Addr} {l : Lim} (hb : Below w.heap.size w w') (h : ScopeOK w sc l) : ScopeOK w' sc l := by
  intro ad e
  obtain ⟨b, off, rfl, h1, h2⟩ := h ad e
  exact ⟨b, off, rfl, h1.below hb (World.block_lt_of_cell? _ _ h1.c0), h2.below hb⟩

set_option maxRecDepth 100000 in
set_option maxHeartbeats 1600000 in
theorem addKey_any (x : Int) (s : ByteArray) (sc : Option Addr) (l : Lim) (w : World) (h : ScopeOK w sc l) :
    Calls Try.prog 7 #[.int .i64 x, .agg #[.string s, .pointer sc]] w fun e w' => AnyInt e ∧ Below w.heap.size w w' := by
  have H : Hid (ScopeOK w sc l) := h
  clear h
  have HB0 : Hid (Below w.heap.size w (w.alloc (.cells #[.string s, .pointer sc] 29))) := (Below.refl _ _).alloc (Nat.le_refl _) _
  cases sc with
  | none =>
    go_enter Try.func7, Try.ntmps7
    go_wp2_with fail
    refine (add_any _ _ _).mono ?_
    rintro e w' ⟨⟨z1, rfl⟩, hw⟩
    subst w'
    go_wp2_with fail
    refine (add_any _ _ _).mono ?_
    rintro e w' ⟨⟨z2, rfl⟩, hw⟩
    subst w'
    go_wp2_with fail
    go_ret
    exact ⟨anyInt _, HB0.out⟩
  | some ad =>
    obtain ⟨b, off, rfl, hat, hok⟩ := H.out ad rfl
    have e0 := (HB0.out.cell (p := ⟨b, off, none⟩) (World.block_lt_of_cell? _ _ hat.c0)).trans hat.c0
    have e1 := (HB0.out.cell (p := ⟨b, off + 1, none⟩) (World.block_lt_of_cell? _ _ hat.c1)).trans hat.c1
    have e2 := (HB0.out.cell (p := ⟨b, off + 2, none⟩) (World.block_lt_of_cell? _ _ hat.c2)).trans hat.c2
    have e3 := (HB0.out.cell (p := ⟨b, off + 3, none⟩) (World.block_lt_of_cell? _ _ hat.c3)).trans hat.c3
    have e4 := (HB0.out.cell (p := ⟨b, off + 4, none⟩) (World.block_lt_of_cell? _ _ hat.c4)).trans hat.c4
    have HOK : Hid (LimOK w l) := hok
    clear hat hok
    go_enter Try.func7, Try.ntmps7
    go_wp2_with fail
    refine (add_any _ _ _).mono ?_
    rintro e w' ⟨⟨z1, rfl⟩, hw⟩
    subst w'
    go_wp2_with fail
    refine (add_any _ _ _).mono ?_
    rintro e w' ⟨⟨z2, rfl⟩, hw⟩
    subst w'
    go_wp2_with fail
    · refine (addLimits_any _ l _ (by exact HOK.out.below HB0.out)).mono ?_
      rintro e w' ⟨⟨z3, rfl⟩, hb'⟩
      go_wp2_with fail
      go_ret
      exact ⟨anyInt _, HB0.out.trans (hb'.mono HB0.out.size)⟩
    · go_ret
      exact ⟨anyInt _, HB0.out⟩

/-- A signing key as it came in. -/
structure Key where
  key : ByteArray
  sc : Option Addr
  l : Lim
/-- The slice at 'a' reads as n keys. -/
structure KeysAt (w : World) (a : Option Addr) (n : Nat) (K : Nat → Key) : Prop where
  row : 0 < n → ∃ b off, a = some ⟨b, off, none⟩ ∧ ∀ i, i < n → w.cell? ⟨b, off + i * 2, none⟩ = some (.string (K i).key) ∧ w.cell? ⟨b, off + i * 2 + 1, none⟩ = some (.pointer (K i).sc)
  ok : ∀ i, i < n → ScopeOK w (K i).sc (K i).l
theorem KeysAt.below {w w' : World} {a : Option Addr} {n : Nat} {K : Nat → Key} (hb : Below w.heap.size w w') (h : KeysAt w a n K) : KeysAt w' a n K := by
  refine ⟨fun hn => ?_, fun i hi => (h.ok i hi).below hb⟩
  obtain ⟨b, off, rfl, hc⟩ := h.row hn
  refine ⟨b, off, rfl, fun i hi => ?_⟩
  obtain ⟨h1, h2⟩ := hc i hi
  exact ⟨(hb.cell (p := ⟨b, off + i * 2, none⟩) (World.block_lt_of_cell? _ _ h1)).trans h1, (hb.cell (p := ⟨b, off + i * 2 + 1, none⟩) (World.block_lt_of_cell? _ _ h2)).trans h2⟩

theorem addKeys_any (x : Int) (a : Option Addr) (n c : Nat) (K : Nat → Key) (w : World) (hn : n ≤ 9223372036854775807) (h : KeysAt w a n K) :
    Calls Try.prog 6 #[.int .i64 x, .slice a n c] w fun e w' => AnyInt e ∧ Below w.heap.size w w' := by
  have H : Hid (KeysAt w a n K) := h
  clear h
  go_enter Try.func6, Try.ntmps6
  go_wp2_with fail
  go_loopw [0, 5] (fun t i wr => ∃ (k : Nat) (y : Int), k ≤ n ∧ i = .int .i64 k ∧ t = .int .i64 y ∧ Below w.heap.size w wr) (fun _ i _ => n - (intOf i).toNat)
  case atStart => exact ⟨0, _, Nat.zero_le _, rfl, rfl, Below.refl _ _⟩
  case round =>
    obtain ⟨k, y, hk, rfl, rfl, hB⟩ := hrel
    by_cases hlt : k < n
    · have hk2 := H.out.below hB
      obtain ⟨b0, o0, ha, hc⟩ := hk2.row (by omega)
      obtain ⟨e0, e1⟩ := hc k hlt
      obtain ⟨s, hs⟩ : ∃ s, s = (K k).key := ⟨_, rfl⟩
      obtain ⟨sc, hsc⟩ : ∃ s, s = (K k).sc := ⟨_, rfl⟩
      have HSO : Hid (ScopeOK wr sc (K k).l) := by rw [hsc]; exact hk2.ok k hlt
      rw [← hs] at e0
      rw [← hsc] at e1
      have g1 : (k : Int) < (n : Int) := by omega
      subst ha
      clear hc hk2 hs hsc
      go_wp2_with fail
      refine (addKey_any _ _ _ _ _ HSO.out).mono ?_
      rintro e w' ⟨⟨z, rfl⟩, hb'⟩
      have hB' : Below w.heap.size w w' := hB.trans (hb'.mono hB.size)
      go_wp2_with fail
      · go_ret
        exact ⟨anyInt _, hB'⟩
      go_roundw
      case rel => exact ⟨k + 1, _, by omega, by go_num, rfl, hB'⟩
      case measure => simp [intOf]; omega
    · have hge : ¬ (k : Int) < (n : Int) := by omega
      go_wp2_with fail
      go_ret
      exact ⟨anyInt _, hB⟩
end Go.Proofs.Qxb6618931a
