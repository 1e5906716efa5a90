/-
  keyIndex, signerScope, appliedConnectLimits: the limits that are applied, as plain data.
-/
import Derived.Test.Qxb6618931aClaims
import Derived.Test.Qxb6618931aSame
namespace Go.Proofs.Qxb6618931a
open Go.RowKit
set_option linter.unusedVariables false

/-- r is the first place of s among the keys, or -1. -/
def FirstAt (K : Nat → Key) (n : Nat) (s : ByteArray) (r : Int) : Prop :=
  (r = -1 ∧ ∀ j, j < n → ((K j).key.toList == s.toList) = false) ∨ (∃ i : Nat, i < n ∧ r = i ∧ ((K i).key.toList == s.toList) = true ∧ ∀ j, j < i → ((K j).key.toList == s.toList) = false)
def FirstRet (K : Nat → Key) (n : Nat) (s : ByteArray) (e : Ending) : Prop := ∃ r, e = .returned (.int .i64 r) ∧ FirstAt K n s r

theorem closure_any (key s : ByteArray) (sc : Option Addr) (B : Nat) (w : World) (h : w.cell? ⟨B, 0, none⟩ = some (.string s)) :
    Calls Try.prog 27 #[.agg #[.string key, .pointer sc], .pointer (some ⟨B, 0, none⟩)] w fun e w' => e = .returned (.bool (key.toList == s.toList)) ∧ Below w.heap.size w w' := by
  have hB : B < w.heap.size := World.block_lt_of_cell? _ _ h
  have hne : B ≠ w.heap.size := by omega
  go_enter Try.func27, Try.ntmps27
  go_wp2
  go_ret
  exact ⟨rfl, (Below.refl _ _).alloc (Nat.le_refl _) _⟩

set_option maxHeartbeats 1600000 in
theorem indexFunc_any (a : Option Addr) (n c : Nat) (K : Nat → Key) (s : ByteArray) (B : Nat) (w : World) (hn : n ≤ 9223372036854775807) (h : w.cell? ⟨B, 0, none⟩ = some (.string s)) (hr : 0 < n → ∃ b, a = some ⟨b, 0, none⟩ ∧ ∀ i, i < n → EntryAt 0 w b i (K i)) :
    Calls Try.prog 26 #[.slice a n c, .func (.func 27) #[] #[.pointer (some ⟨B, 0, none⟩)]] w fun e w' => FirstRet K n s e ∧ Below w.heap.size w w' := by
  have HC : Hid (w.cell? ⟨B, 0, none⟩ = some (.string s)) := h
  have HR : Hid (0 < n → ∃ b, a = some ⟨b, 0, none⟩ ∧ ∀ i, i < n → EntryAt 0 w b i (K i)) := hr
  clear h hr
  go_enter Try.func26, Try.ntmps26
  go_wp2_with fail
  go_loopw [5, 8] (fun _ i wr => ∃ k : Nat, k ≤ n ∧ i = .int .i64 k ∧ (∀ j, j < k → ((K j).key.toList == s.toList) = false) ∧ Below w.heap.size w wr) (fun _ i _ => n - (intOf i).toNat)
  case atStart => exact ⟨0, Nat.zero_le _, rfl, fun j hj => absurd hj (by omega), Below.refl _ _⟩
  case round =>
    obtain ⟨k, hk, rfl, hdone, hB⟩ := hrel
    have HD : Hid (∀ j, j < k → ((K j).key.toList == s.toList) = false) := hdone
    clear hdone
    by_cases hlt : k < n
    · have g1 : (k : Int) < (n : Int) := by omega
      obtain ⟨b, ha, hc⟩ := HR.out (by omega)
      obtain ⟨e0, sc', e1, _⟩ := (hc k hlt).below hB
      obtain ⟨key, hkey⟩ : ∃ key, key = (K k).key := ⟨_, rfl⟩
      rw [← hkey] at e0
      have HK : Hid (key = (K k).key) := hkey
      have HC2 : Hid (wr.cell? ⟨B, 0, none⟩ = some (.string s)) := (hB.cell (p := ⟨B, 0, none⟩) (World.block_lt_of_cell? _ _ HC.out)).trans HC.out
      subst ha
      clear hc hkey
      obtain ⟨bo, hbo⟩ : ∃ bo, (key.toList == s.toList) = bo := ⟨_, rfl⟩
      have hcl := closure_any key s sc' B wr HC2.out
      rw [hbo] at hcl
      have HCL : Hid (Calls Try.prog 27 #[.agg #[.string key, .pointer sc'], .pointer (some ⟨B, 0, none⟩)] wr fun e w' => e = .returned (.bool bo) ∧ Below wr.heap.size wr w') := hcl
      have HBO : Hid ((key.toList == s.toList) = bo) := hbo
      clear hcl hbo
      cases bo with
      | true =>
        go_wp2_with fail
        refine HCL.out.mono ?_
        rintro e w' ⟨rfl, hb'⟩
        go_wp2_with fail
        go_ret
        exact ⟨⟨_, rfl, .inr ⟨k, hlt, rfl, by rw [← HK.out]; exact HBO.out, HD.out⟩⟩, hB.trans (hb'.mono hB.size)⟩
      | false =>
        go_wp2_with fail
        refine HCL.out.mono ?_
        rintro e w' ⟨rfl, hb'⟩
        go_wp2_with fail
        go_roundw
        case rel => exact ⟨k + 1, by omega, by go_num, fun j hj => by by_cases e : j = k; (subst e; rw [← HK.out]; exact HBO.out); exact HD.out j (by omega), hB.trans (hb'.mono hB.size)⟩
        case measure => simp [intOf]; omega
    · have hge : k = n := by omega
      subst hge
      have g1 : ¬ (k : Int) < (k : Int) := by omega
      go_wp2_with fail
      go_ret
      exact ⟨⟨_, rfl, .inl ⟨rfl, HD.out⟩⟩, hB⟩

theorem keyIndex_any (a : Option Addr) (n c : Nat) (K : Nat → Key) (s : ByteArray) (w : World) (hn : n ≤ 9223372036854775807) (hr : 0 < n → ∃ b, a = some ⟨b, 0, none⟩ ∧ ∀ i, i < n → EntryAt 0 w b i (K i)) :
    Calls Try.prog 25 #[.slice a n c, .string s] w fun e w' => FirstRet K n s e ∧ Below w.heap.size w w' := by
  have HR : Hid (0 < n → ∃ b, a = some ⟨b, 0, none⟩ ∧ ∀ i, i < n → EntryAt 0 w b i (K i)) := hr
  clear hr
  obtain ⟨W, hW⟩ : ∃ W, W = w.alloc (.cells #[.string s] 9) := ⟨_, rfl⟩
  have HB : Hid (Below w.heap.size w W) := by rw [hW]; exact (Below.refl _ _).alloc (Nat.le_refl _) _
  have HC : Hid (W.cell? ⟨w.heap.size, 0, none⟩ = some (.string s)) := by rw [hW]; exact World.cell?_alloc_mark _ _ _ _ 0
  go_enter Try.func25, Try.ntmps25
  go_wp2_with fail
  rw [← hW]
  refine (indexFunc_any a n c K s w.heap.size W hn HC.out (fun h => by
    obtain ⟨b, e, h2⟩ := HR.out h
    exact ⟨b, e, fun i hi => (h2 i hi).below HB.out⟩)).mono ?_
  rintro e w1 ⟨⟨r, rfl, hf⟩, hb⟩
  go_wp2_with fail
  go_ret
  exact ⟨⟨r, rfl, hf⟩, HB.out.trans (hb.mono HB.out.size)⟩

/-- signerScope's answer: what the first such key's scope has become, or nil. -/
def SignRet (K : Nat → Key) (n : Nat) (s : ByteArray) (e : Ending) (w : World) : Prop :=
  ∃ sc', e = .returned (.pointer sc') ∧ ((sc' = none ∧ ∀ j, j < n → ((K j).key.toList == s.toList) = false) ∨ (∃ i : Nat, i < n ∧ ScopeConn 0 w sc' (K i) ∧ ((K i).key.toList == s.toList) = true ∧ ∀ j, j < i → ((K j).key.toList == s.toList) = false))

set_option maxRecDepth 100000 in
set_option maxHeartbeats 1600000 in
theorem signer_any (u p n : Nat) (K : Nat → Key) (s : ByteArray) (own : Lim) (W0 w : World) (hn : n ≤ 9223372036854775807) (hu : UserAt w u s own) (ha : AccAt W0 p n K) (h0 : Below W0.heap.size W0 w) :
    Calls Try.prog 23 #[.pointer (some ⟨u, 0, none⟩), .pointer (some ⟨p, 0, none⟩)] w fun e w' => SignRet K n s e W0 ∧ Below w.heap.size w w' := by
  obtain ⟨a', c', h20', hrow⟩ := ha
  have h20 := (h0.cell (p := ⟨p, 20, none⟩) (World.block_lt_of_cell? _ _ h20')).trans h20'
  have h2 := hu.iss
  have HR0 : Hid (0 < n → ∃ b, a' = some ⟨b, 0, none⟩ ∧ ∀ i, i < n → EntryAt 0 W0 b i (K i)) := hrow
  have HR : Hid (0 < n → ∃ b, a' = some ⟨b, 0, none⟩ ∧ ∀ i, i < n → EntryAt 0 w b i (K i)) := fun h => by
    obtain ⟨b, e, h3⟩ := hrow h
    exact ⟨b, e, fun i hi => (h3 i hi).below h0⟩
  have H0 : Hid (Below W0.heap.size W0 w) := h0
  clear hu hrow h20' h0
  go_enter Try.func23, Try.ntmps23
  go_wp2_with fail
  go_region_held3 (fun w' => w'.cell? ⟨p, 20, none⟩ = some (.slice a' n c') ∧ w'.cell? ⟨u, 2, none⟩ = some (.string s)) (go_keep) ((go_at_call 25; refine (keyIndex_any a' n c' K s _ hn (by exact HR.out)).mono ?_; rintro e w1 ⟨⟨r, rfl, hf⟩, hb⟩; have f0 := (hb.cell (p := ⟨p, 20, none⟩) (World.block_lt_of_cell? _ _ h20)).trans h20; have f1 := (hb.cell (p := ⟨u, 2, none⟩) (World.block_lt_of_cell? _ _ h2)).trans h2))
  have HBW : Hid (Below w.heap.size w w1) := (Below.refl w.heap.size w).drew.trans hb
  have HB0 : Hid (Below W0.heap.size W0 w1) := H0.out.trans (HBW.out.mono H0.out.size)
  clear hb HR
  rcases hf with ⟨rfl, hno⟩ | ⟨i, hi, rfl, hyes, hno⟩
  · go_wp2_with fail
    go_ret
    exact ⟨⟨none, rfl, .inl ⟨rfl, hno⟩⟩, HBW.out⟩
  · obtain ⟨b, ha, hc⟩ := HR0.out (by omega)
    obtain ⟨_, sc', e1', hsc⟩ := hc i hi
    have e1 := (HB0.out.cell (p := ⟨b, i * 2 + 1, none⟩) (World.block_lt_of_cell? _ _ e1')).trans e1'
    have g1 : (i : Int) < (n : Int) := by omega
    have g2 : ¬ ((i : Int) < 0) := by omega
    have HSC : Hid (ScopeConn 0 W0 sc' (K i)) := hsc
    have HY : Hid (((K i).key.toList == s.toList) = true) := hyes
    have HN : Hid (∀ j, j < i → ((K j).key.toList == s.toList) = false) := hno
    subst ha
    clear hc hsc e1' hyes hno
    go_wp2_with fail
    go_ret
    exact ⟨⟨sc', rfl, .inr ⟨i, hi, HSC.out, HY.out, HN.out⟩⟩, HBW.out⟩

/-- The limits that are applied, as plain data. -/
def Applied (own : Lim) (K : Nat → Key) (n : Nat) (s : ByteArray) (l : Lim) : Prop :=
  (l = own ∧ ((∀ j, j < n → ((K j).key.toList == s.toList) = false) ∨ ∃ i : Nat, i < n ∧ (K i).sc = none ∧ ((K i).key.toList == s.toList) = true ∧ ∀ j, j < i → ((K j).key.toList == s.toList) = false)) ∨
  (∃ i : Nat, i < n ∧ (K i).sc ≠ none ∧ ((K i).key.toList == s.toList) = true ∧ (∀ j, j < i → ((K j).key.toList == s.toList) = false) ∧ l = (K i).l.tmpl)
def AppRet (own : Lim) (K : Nat → Key) (n : Nat) (s : ByteArray) (e : Ending) (w : World) : Prop := ∃ v l, e = .returned v ∧ ConnVal w v l ∧ Applied own K n s l

set_option maxRecDepth 100000 in
set_option maxHeartbeats 1600000 in
theorem applied_any (u p n : Nat) (K : Nat → Key) (s : ByteArray) (own : Lim) (W0 w : World) (hn : n ≤ 9223372036854775807) (hu : UserAt W0 u s own) (ha : AccAt W0 p n K) (h0 : Below W0.heap.size W0 w) :
    Calls Try.prog 18 #[.pointer (some ⟨u, 0, none⟩), .pointer (some ⟨p, 0, none⟩)] w fun e w' => AppRet own K n s e W0 ∧ Below w.heap.size w w' := by
  have HU : Hid (UserAt W0 u s own) := hu
  have HA : Hid (AccAt W0 p n K) := ha
  have H0 : Hid (Below W0.heap.size W0 w) := h0
  have hs0 : W0.heap.size ≤ w.heap.size := h0.size
  clear hu ha h0
  obtain ⟨B, hB⟩ : ∃ B, B = w.heap.size := ⟨_, rfl⟩
  obtain ⟨W, hW⟩ : ∃ W, W = w.alloc (.cells #[.slice none 0 0, .bool false, .slice none 0 0, .string { data := #[] }, .slice none 0 0, .bool false] 40) := ⟨_, rfl⟩
  have HB0 : Hid (Below w.heap.size w W) := by rw [hW]; exact (Below.refl _ _).alloc (Nat.le_refl _) _
  have HF0 : Hid (Free W B 6) := by rw [hW, hB]; exact free_alloc w _ 40 _ rfl
  have hl0 : B < W.heap.size := by rw [hW, hB]; simp
  have hle : w.heap.size ≤ B := by omega
  have HW : Hid (W = w.alloc (.cells #[.slice none 0 0, .bool false, .slice none 0 0, .string { data := #[] }, .slice none 0 0, .bool false] 40)) := hW
  have HBB : Hid (B = w.heap.size) := hB
  clear hW hB
  go_enter Try.func18, Try.ntmps18
  go_wp2_with fail
  rw [← HW.out, ← HBB.out]
  clear HW HBB
  refine (signer_any u p n K s own W0 W hn (HU.out.below (H0.out.trans (HB0.out.mono hs0))) HA.out (H0.out.trans (HB0.out.mono hs0))).mono ?_
  rintro e w1 ⟨⟨sc', rfl, hsc⟩, hb1⟩
  have hlt : B < w1.heap.size := Nat.lt_of_lt_of_le hl0 hb1.size
  have hf := HF0.out.below hb1 hl0
  have HB1 : Hid (Below w.heap.size w w1) := HB0.out.trans (hb1.mono HB0.out.size)
  have HZ1 : Hid (Below W0.heap.size W0 w1) := H0.out.trans (HB1.out.mono hs0)
  obtain ⟨v0, hv0⟩ := hf.cell 0 (by omega)
  obtain ⟨v1, hv1⟩ := hf.cell 1 (by omega)
  obtain ⟨v2, hv2⟩ := hf.cell 2 (by omega)
  obtain ⟨v3, hv3⟩ := hf.cell 3 (by omega)
  obtain ⟨v4, hv4⟩ := hf.cell 4 (by omega)
  obtain ⟨v5, hv5⟩ := hf.cell 5 (by omega)
  have z0 : w1.frozen? ⟨B, 0, none⟩ = false := hf.free _
  have z1 : w1.frozen? ⟨B, 1, none⟩ = false := hf.free _
  have z2 : w1.frozen? ⟨B, 2, none⟩ = false := hf.free _
  have z3 : w1.frozen? ⟨B, 3, none⟩ = false := hf.free _
  have z4 : w1.frozen? ⟨B, 4, none⟩ = false := hf.free _
  have z5 : w1.frozen? ⟨B, 5, none⟩ = false := hf.free _
  have hub : u ≠ B := by
    have := World.block_lt_of_cell? _ _ HU.out.iss
    simp at this
    omega
  have HSC : Hid ((sc' = none ∧ ∀ j, j < n → ((K j).key.toList == s.toList) = false) ∨ (∃ i : Nat, i < n ∧ ScopeConn 0 W0 sc' (K i) ∧ ((K i).key.toList == s.toList) = true ∧ ∀ j, j < i → ((K j).key.toList == s.toList) = false)) := hsc
  clear hsc hf hb1 HF0
  cases sc' with
  | none =>
    obtain ⟨a', c', k0, k1, k2, k3, k4, k5, h6, h7, _⟩ := HU.out.conn
    have hul : u < W0.heap.size := World.block_lt_of_cell? _ _ k0
    have h0 := (HZ1.out.cell (p := ⟨u, 11, none⟩) hul).trans k0
    have h1 := (HZ1.out.cell (p := ⟨u, 12, none⟩) hul).trans k1
    have h2 := (HZ1.out.cell (p := ⟨u, 13, none⟩) hul).trans k2
    have h3 := (HZ1.out.cell (p := ⟨u, 14, none⟩) hul).trans k3
    have h4 := (HZ1.out.cell (p := ⟨u, 15, none⟩) hul).trans k4
    have h5 := (HZ1.out.cell (p := ⟨u, 16, none⟩) hul).trans k5
    have H7 : Hid (Spans W0 a' own.n2 own.T) := h7
    have H6 : Hid (a'.isNone = own.a2.isNone) := h6
    clear h6 h7 k0 k1 k2 k3 k4 k5
    go_wp2_with fail
    have hfin := below_six HB1.out B 0 1 2 3 4 5 (.slice own.a1 own.n1 own.c1) (.bool false) (.slice a' own.n2 c') (.string own.loc) (.slice own.a3 own.n3 own.c3) (.bool own.bt) hle
    exact bodyPost_ret (v := .agg #[.slice own.a1 own.n1 own.c1, .bool false, .slice a' own.n2 c', .string own.loc, .slice own.a3 own.n3 own.c3, .bool own.bt]) (by simp [results, Try.results18, go_sem, *]) rfl
      ⟨⟨_, own, rfl, ⟨a', c', rfl, H6.out, H7.out⟩, .inl ⟨rfl, by
        rcases HSC.out with ⟨_, h⟩ | ⟨i, hi, hs, hy, hno⟩
        · exact .inl h
        · rcases hs with ⟨h, _⟩ | ⟨_, b, h, _⟩
          · exact .inr ⟨i, hi, h, hy, hno⟩
          · cases h⟩⟩, hfin⟩
  | some sd =>
    obtain ⟨i, hi, hs, hy, hno⟩ : ∃ i : Nat, i < n ∧ ScopeConn 0 W0 (some sd) (K i) ∧ ((K i).key.toList == s.toList) = true ∧ ∀ j, j < i → ((K j).key.toList == s.toList) = false := by
      rcases HSC.out with ⟨h, _⟩ | h
      · cases h
      · exact h
    obtain ⟨hne, b, hsd, a', c', k0, k1, k2, k3, k4, k5, h6, h7, _⟩ : (K i).sc ≠ none ∧ ∃ b, some sd = some ⟨b, 0, none⟩ ∧ ConnAt 0 W0 b 9 (K i).l := by
      rcases hs with ⟨_, h⟩ | h
      · cases h
      · exact h
    simp only [Option.some.injEq] at hsd
    subst hsd
    have hbl : b < W0.heap.size := World.block_lt_of_cell? _ _ k0
    have hbB : b ≠ B := by omega
    obtain ⟨l, hl⟩ : ∃ l, l = (K i).l := ⟨_, rfl⟩
    rw [← hl] at k0 k2 k3 k4 k5 h6 h7
    have h0 := (HZ1.out.cell (p := ⟨b, 9, none⟩) hbl).trans k0
    have h1 := (HZ1.out.cell (p := ⟨b, 10, none⟩) hbl).trans k1
    have h2 := (HZ1.out.cell (p := ⟨b, 11, none⟩) hbl).trans k2
    have h3 := (HZ1.out.cell (p := ⟨b, 12, none⟩) hbl).trans k3
    have h4 := (HZ1.out.cell (p := ⟨b, 13, none⟩) hbl).trans k4
    have h5 := (HZ1.out.cell (p := ⟨b, 14, none⟩) hbl).trans k5
    have H7 : Hid (Spans W0 a' l.n2 l.T) := h7
    have H6 : Hid (a'.isNone = l.a2.isNone) := h6
    have HL : Hid (l = (K i).l) := hl
    have HAP : Hid (Applied own K n s (K i).l.tmpl) := .inr ⟨i, hi, hne, hy, hno, rfl⟩
    clear h6 h7 k0 k1 k2 k3 k4 k5 hl hs hy hno hne HSC
    by_cases hz : l.n2 = 0
    · have hzi : ((l.n2 : Int) == 0) = true := by simp [hz]
      go_wp2_with fail
      have h6 := below_six HB1.out B 0 1 2 3 4 5 (.slice l.a1 l.n1 l.c1) (.bool false) (.slice a' 0 c') (.string { data := #[] }) (.slice none 0 0) (.bool l.bt) hle
      have hfin := h6.alloc h6.size (.cells #[.slice l.a1 l.n1 l.c1, .bool false, .slice a' 0 c', .string { data := #[] }, .slice none 0 0, .bool l.bt] 40)
      have hcv : (.agg #[.slice l.a1 l.n1 l.c1, .bool false, .slice a' 0 c', .string { data := #[] }, .slice none 0 0, .bool l.bt] : Value) = .agg #[.slice l.tmpl.a1 l.tmpl.n1 l.tmpl.c1, .bool false, .slice a' l.tmpl.n2 c', .string l.tmpl.loc, .slice l.tmpl.a3 l.tmpl.n3 l.tmpl.c3, .bool l.tmpl.bt] := by
        simp [Lim.tmpl, hz, ByteArray.empty, ByteArray.emptyWithCapacity]
        rfl
      exact bodyPost_ret (v := .agg #[.slice l.a1 l.n1 l.c1, .bool false, .slice a' 0 c', .string { data := #[] }, .slice none 0 0, .bool l.bt]) (by simp [results, Try.results18, go_sem, *]) rfl
        ⟨⟨_, l.tmpl, rfl, ⟨a', c', hcv, H6.out, H7.out⟩, by rw [HL.out]; exact HAP.out⟩, hfin⟩
    · have hzi : ((l.n2 : Int) == 0) = false := by simp; omega
      go_wp2_with fail
      have h6 := below_six HB1.out B 0 1 2 3 4 5 (.slice l.a1 l.n1 l.c1) (.bool false) (.slice a' l.n2 c') (.string l.loc) (.slice none 0 0) (.bool l.bt) hle
      have hfin := h6.alloc h6.size (.cells #[.slice l.a1 l.n1 l.c1, .bool false, .slice a' l.n2 c', .string l.loc, .slice none 0 0, .bool l.bt] 40)
      have hcv : (.agg #[.slice l.a1 l.n1 l.c1, .bool false, .slice a' l.n2 c', .string l.loc, .slice none 0 0, .bool l.bt] : Value) = .agg #[.slice l.tmpl.a1 l.tmpl.n1 l.tmpl.c1, .bool false, .slice a' l.tmpl.n2 c', .string l.tmpl.loc, .slice l.tmpl.a3 l.tmpl.n3 l.tmpl.c3, .bool l.tmpl.bt] := by
        simp [Lim.tmpl, hz]
      exact bodyPost_ret (v := .agg #[.slice l.a1 l.n1 l.c1, .bool false, .slice a' l.n2 c', .string l.loc, .slice none 0 0, .bool l.bt]) (by simp [results, Try.results18, go_sem, *]) rfl
        ⟨⟨_, l.tmpl, rfl, ⟨a', c', hcv, H6.out, H7.out⟩, by rw [HL.out]; exact HAP.out⟩, hfin⟩

set_option maxRecDepth 100000 in
set_option maxHeartbeats 1600000 in
theorem zzApplied_any (u p n : Nat) (K : Nat → Key) (s : ByteArray) (own : Lim) (w : World) (hn : n ≤ 9223372036854775807) (hu : UserAt w u s own) (ha : AccAt w p n K) :
    Calls Try.prog 9 #[.pointer (some ⟨u, 0, none⟩), .pointer (some ⟨p, 0, none⟩)] w fun e w' => AppRet own K n s e w ∧ Below w.heap.size w w' := by
  have HU : Hid (UserAt w u s own) := hu
  have HA : Hid (AccAt w p n K) := ha
  clear hu ha
  obtain ⟨B, hB⟩ : ∃ B, B = w.heap.size := ⟨_, rfl⟩
  obtain ⟨W, hW⟩ : ∃ W, W = w.alloc (.cells #[.slice none 0 0, .bool false, .slice none 0 0, .string { data := #[] }, .slice none 0 0, .bool false] 40) := ⟨_, rfl⟩
  have HB0 : Hid (Below w.heap.size w W) := by rw [hW]; exact (Below.refl _ _).alloc (Nat.le_refl _) _
  have HF0 : Hid (Free W B 6) := by rw [hW, hB]; exact free_alloc w _ 40 _ rfl
  have hl0 : B < W.heap.size := by rw [hW, hB]; simp
  have hle : w.heap.size ≤ B := by omega
  have HW : Hid (W = w.alloc (.cells #[.slice none 0 0, .bool false, .slice none 0 0, .string { data := #[] }, .slice none 0 0, .bool false] 40)) := hW
  have HBB : Hid (B = w.heap.size) := hB
  clear hW hB
  go_enter Try.func9, Try.ntmps9
  go_wp2_with fail
  rw [← HW.out, ← HBB.out]
  clear HW HBB
  refine (applied_any u p n K s own w W hn HU.out HA.out HB0.out).mono ?_
  rintro e w1 ⟨⟨v, l, rfl, ⟨a', c', rfl, h6, h7⟩, hap⟩, hb1⟩
  have hlt : B < w1.heap.size := Nat.lt_of_lt_of_le hl0 hb1.size
  have hf := HF0.out.below hb1 hl0
  have HB1 : Hid (Below w.heap.size w w1) := HB0.out.trans (hb1.mono HB0.out.size)
  obtain ⟨v0, hv0⟩ := hf.cell 0 (by omega)
  obtain ⟨v1, hv1⟩ := hf.cell 1 (by omega)
  obtain ⟨v2, hv2⟩ := hf.cell 2 (by omega)
  obtain ⟨v3, hv3⟩ := hf.cell 3 (by omega)
  obtain ⟨v4, hv4⟩ := hf.cell 4 (by omega)
  obtain ⟨v5, hv5⟩ := hf.cell 5 (by omega)
  have z0 : w1.frozen? ⟨B, 0, none⟩ = false := hf.free _
  have z1 : w1.frozen? ⟨B, 1, none⟩ = false := hf.free _
  have z2 : w1.frozen? ⟨B, 2, none⟩ = false := hf.free _
  have z3 : w1.frozen? ⟨B, 3, none⟩ = false := hf.free _
  have z4 : w1.frozen? ⟨B, 4, none⟩ = false := hf.free _
  have z5 : w1.frozen? ⟨B, 5, none⟩ = false := hf.free _
  have H7 : Hid (Spans w a' l.n2 l.T) := h7
  have H6 : Hid (a'.isNone = l.a2.isNone) := h6
  have HAP : Hid (Applied own K n s l) := hap
  clear hf hb1 HF0 h6 h7 hap
  go_wp2_with fail
  have hfin := below_six HB1.out B 0 1 2 3 4 5 (.slice l.a1 l.n1 l.c1) (.bool false) (.slice a' l.n2 c') (.string l.loc) (.slice l.a3 l.n3 l.c3) (.bool l.bt) hle
  exact bodyPost_ret (v := .agg #[.slice l.a1 l.n1 l.c1, .bool false, .slice a' l.n2 c', .string l.loc, .slice l.a3 l.n3 l.c3, .bool l.bt]) (by simp [results, Try.results9, go_sem, *]) rfl
    ⟨⟨_, l, rfl, ⟨a', c', rfl, H6.out, H7.out⟩, HAP.out⟩, hfin⟩
end Go.Proofs.Qxb6618931a
