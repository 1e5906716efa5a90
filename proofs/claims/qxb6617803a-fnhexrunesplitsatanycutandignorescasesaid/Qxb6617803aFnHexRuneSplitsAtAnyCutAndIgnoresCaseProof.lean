/-
  THE PROOF OF 'Rows.FnHexRuneSplitsAtAnyCutAndIgnoresCaseSaid' ('example.com/sagaline/sagaline/zzlaws_root_b1.FnHexRuneSplitsAtAnyCutAndIgnoresCase'). The frame was written by the kit's program (proof-skeleton.mjs); the walk is typed by hand.
-/
import Derived.Test.Qxb6617803aRows
import Derived.WalkKit
import Derived.ProofKit
import Derived.OpenShut
import Derived.ShutString
import Derived.ChangeOld
import Derived.Below
import Derived.WalkSpells
import Derived.Deep.DeepCutAuto
import Derived.Test.Qxb6617803aHexSwap
namespace Go.Proofs.Qxb6617803a.fnHexRuneSplitsAtAnyCutAndIgnoresCase
open Go.ChangeShapes Go.WideShapes Go.ChangeAt Go.RowKit
open Go.ChangeMaps (open_string shut_string)
set_option linter.unusedVariables false

theorem own : ownKnob Try.prog.godebug = none := by kernel_rfl
theorem laidOut : laidOutB Try.prog = true := by kernel_rfl

/-- WHAT THE WALK IS TOLD OF A SLICE OF INTEGERS THAT CAME IN: it is nil; or it leads to a row of 'cap' cells, the numbers 'zs' (the first 'len' are its elements, the rest its spare room), each fitting its kind. -/
def IsRow (k : IntKind) (w : World) (a : Option Addr) (len cap : Nat) (zs : List Int) : Prop :=
  (a = none ∧ len = 0 ∧ cap = 0 ∧ zs = []) ∨
  ∃ x, a = some x ∧ len ≤ cap ∧ cap ≤ maxLen ∧ zs.length = cap ∧ (∀ i, i < zs.length → w.cell? (x.add i) = some (.int k (zs.getD i 0))) ∧ ∀ n ∈ zs, (Lit.int k n).wf = true

theorem bytesTwo_any (a : Option Addr) (la ca : Nat) (b : Option Addr) (lb cb : Nat) (d : Int) (ha : la ≤ maxLen) (hb : lb ≤ maxLen) (w : World) :
    Calls Try.prog 9 #[.slice a la ca, .slice b lb cb, .int .u8 d] w fun e w' => e = .returned (.bool (decide (la + lb ≤ 1048576))) ∧ w' = w := by
  unfold maxLen at ha hb
  by_cases h1 : la ≤ 1048576
  · by_cases h2 : lb ≤ 1048576
    · by_cases h3 : la + lb ≤ 1048576
      · go_enter Try.func9, Try.ntmps9
        go_wp2
        go_ret
        exact ⟨ret_bool (by simp; omega), rfl⟩
      · have h4 : 1048576 < la + lb := by omega
        go_enter Try.func9, Try.ntmps9
        go_wp2
        go_ret
        exact ⟨ret_bool (by simp; omega), rfl⟩
    · go_enter Try.func9, Try.ntmps9
      go_wp2
      go_ret
      exact ⟨ret_bool (by simp; omega), rfl⟩
  · go_enter Try.func9, Try.ntmps9
    go_wp2
    go_ret
    exact ⟨ret_bool (by simp; omega), rfl⟩

/-- What a copied slice is like: its bytes as they were. -/
theorem nil_row {w : World} {l : List Int} (h : RowAt w none l) : l.length = 0 := by
  by_cases hl : 0 < l.length
  · obtain ⟨b, off, h, _⟩ := h hl; cases h
  · omega

theorem push_step {z wr w6 : World} {o : Obj} (hB : Below z.heap.size z wr) (hg : (wr.alloc o).grownBy w6 (some z.heap.size)) : Below z.heap.size z w6 :=
  (hB.alloc hB.size o).grown hg (by have := hB.size; simp; omega) (fun k h => by cases h; exact Nat.le_refl _)

theorem push_list (A : List Int) (k : Nat) (c : Int) (h : k < A.length) (hc : c = A.getD k 0) : (A.take k).map (Value.int .u8) ++ [.int .u8 c] = (A.take (k + 1)).map (Value.int .u8) := by
  rw [take_snoc' A k h, ← hc, List.map_append]; rfl

theorem rowAt_one (w : World) (d : Int) : RowAt (w.alloc (.cells #[.int .u8 d] 5)) (some ⟨w.heap.size, 0, none⟩) [d] := by
  intro _
  refine ⟨_, 0, rfl, fun i hi => ?_⟩
  obtain rfl : i = 0 := by simpa using hi
  simp [go_sem]

theorem num_one (d : Int) : num [d] = hexVal d := by simp [num]
theorem hexVal_u32 (d : Int) : hexVal d % 4294967296 = hexVal d := by have := hexVal_bd d; omega

theorem zzHexRune_val (a : Option Addr) (len cap : Nat) (l : List Int) (r : Int) (w : World) (hv : r = wrap32 (num l)) (hl : l.length = len) (hm : len ≤ 1048576) (hr : RowAt w a l) (hall : l.all isHex = true) :
    Calls Try.prog 7 #[.slice a len cap] w fun e w' => e = .returned (.int .i32 r) ∧ w' = w := by
  subst hv
  exact zzHexRune_any a len cap l w hl hm hr hall
theorem hexVal_val (c v : Int) (h : isHex c = true) (hv : v = hexVal c) (w : World) : Calls Try.prog 8 #[.int .u8 c] w fun e w' => e = .returned (.int .u32 v) ∧ w' = w := by
  subst hv
  exact hexVal_any c h w
theorem one_val (d : Int) : hexVal d = wrap32 (num [d]) := by rw [num_one]; have := hexVal_bd d; unfold wrap32; omega
theorem sum_test (A B : List Int) (q nA nB nAB : Int) (hA : nA = wrap32 (num A)) (hB : nB = wrap32 (num B)) (hAB : nAB = wrap32 (num (A ++ B))) (hq : q = 16 ^ B.length % 4294967296) :
    (nAB % 4294967296 == (nA % 4294967296 * q + nB) % 4294967296) = true := by
  subst hA hB hAB
  rw [u32_wrap32, u32_wrap32, Int.add_emod, u32_wrap32, split_law A B q hq]
  simp

set_option maxRecDepth 100000 in
set_option maxHeartbeats 4000000 in
theorem core (a : Option Addr) (la ca : Nat) (A : List Int) (b : Option Addr) (lb cb : Nat) (B : List Int) (d : Int) (w : World)
    (hA : A.length = la) (hB : B.length = lb) (h1 : la + lb ≤ 1048576) (h2 : la ≤ 524288) (h3 : lb ≤ 524288) (hra : RowAt w a A) (hrb : RowAt w b B)
    (xa : A.all isHex = true) (xb : B.all isHex = true) (xd : isHex d = true) :
    Calls Try.prog 4 #[.slice a la ca, .slice b lb cb, .int .u8 d] w fun e w' => e = .returned (.bool true) ∧ Below w.heap.size w w' := by
  have hneq := fun (w : World) (a : Option Addr) (n c : Nat) => run_neq_slice_nil_any (P := Try.prog) w 22 5 a n c 0 0 Try.underlying22
  obtain ⟨i0, hi, hz0, hz1, hz2⟩ := info_parts info5
  have hMa : la ≤ maxLen := by unfold maxLen; omega
  have hMb : lb ≤ maxLen := by unfold maxLen; omega
  have h1a : la ≤ 1048576 := by omega
  have h1b : lb ≤ 1048576 := by omega
  have HA : Hid (A.length = la) := hA
  have HB : Hid (B.length = lb) := hB
  have HRA : Hid (RowAt w a A) := hra
  have HRB : Hid (RowAt w b B) := hrb
  have XA : Hid (A.all isHex = true) := xa
  have XB : Hid (B.all isHex = true) := xb
  clear hA hB hra hrb xa xb
  go_enter Try.func4, Try.ntmps4
  go_upto_if 43 with (first
    | (go_at_call 9; refine (bytesTwo_any _ _ _ _ _ _ _ hMa hMb _).mono ?_; rintro e w' ⟨rfl, hw⟩; subst w')
    | (go_at_call_of 6 a; refine (allHex_any _ _ _ A _ HA.out h1a HRA.out).mono ?_; rintro e w' ⟨rfl, hw⟩; subst w'; rw [XA.out])
    | (go_at_call_of 6 b; refine (allHex_any _ _ _ B _ HB.out h1b HRB.out).mono ?_; rintro e w' ⟨rfl, hw⟩; subst w'; rw [XB.out])
    | (go_at_call 10; refine (isHex_any _ _).mono ?_; rintro e w' ⟨rfl, hw⟩; subst w'))
  go_cut [0] (fun s wx => ∃ (a' : Option Addr) (ca' : Nat), s = .slice a' la ca' ∧ RowAt wx a' A ∧ Below w.heap.size w wx)
  case first =>
    cases a with
    | none =>
      go_wp2
      go_meet
      case rel => exact ⟨_, _, rfl, HRA.out, Below.refl _ _⟩
    | some x =>
      have HT : Hid (0 < A.length → ∀ y, some x = some y → y.block < w.heap.size) := lt_of_row HRA.out
      go_wp2_with (first
        | (at_make; refine wpList_make_full _ rfl _ _ 22 rfl w.heap.size 5 i0 (.int .u8 0) 1 Try.underlying22 hi hz0 hz1 _ _ _ _ la rfl rfl rfl rfl (by rw [hz2]; omega) hMa (Nat.le_refl _) ?_; intro w1 hown1 hgrow1; have hB1 := made_below hgrow1; obtain ⟨cur, hcur, hcl⟩ := made_cur hown1; have HCL : Hid (cur.length = la) := hcl; have HCR : Hid (w1.heap[w.heap.size]? = some (.cells cur.toArray 5 (0, 0))) := hcur; clear hcl hcur hown1 hgrow1)
        | (refine wpList_copy_splice rfl (.tmp 47) (.tmp 48) 22 22 rfl 5 Try.underlying22 size5 (some ⟨w.heap.size, 0, none⟩) (some x) la la la ca rfl rfl w.heap.size 0 cur 5 HCR.out (A.map (Value.int .u8)) (by rw [List.length_map, HA.out]; exact (Nat.min_self _).symm) (copy_src hB1 HT.out HRA.out) (by rw [List.length_map, HA.out, HCL.out]; omega) (ints_one A) w.heap.size w hB1 (Nat.le_refl _) ?_; intro w2 HG2 hB2; have HR2 : Hid (RowAt w2 (some ⟨w.heap.size, 0, none⟩) A) := rowAt_block (by have := HG2.out; rwa [splice_all _ _ (by rw [List.length_map, HA.out, HCL.out])] at this)))
      go_meet
      case rel => exact ⟨_, _, rfl, HR2.out, hB2⟩
  case rest =>
    obtain ⟨v, hv⟩ : ∃ v, v = wc := ⟨_, rfl⟩
    subst hv
    obtain ⟨a', ca', rfl, hra, hb1⟩ := hcut
    have HRA' : Hid (RowAt v a' A) := hra
    have HRB' : Hid (RowAt v b B) := rowAt_grown hb1 HRB.out
    have HB1w : Hid (Below w.heap.size w v) := hb1
    clear hra hb1 HRA HRB
    go_upto_if 52 with fail
    go_cut [1] (fun s wx => ∃ (b' : Option Addr) (cb' : Nat), s = .slice b' lb cb' ∧ RowAt wx b' B ∧ Below v.heap.size v wx)
    case first =>
      cases b with
      | none =>
        go_wp2
        go_meet
        case rel => exact ⟨_, _, rfl, HRB'.out, Below.refl _ _⟩
      | some x =>
        have HT : Hid (0 < B.length → ∀ y, some x = some y → y.block < v.heap.size) := lt_of_row HRB'.out
        go_wp2_with (first
          | (at_make; refine wpList_make_full _ rfl _ _ 22 rfl v.heap.size 5 i0 (.int .u8 0) 1 Try.underlying22 hi hz0 hz1 _ _ _ _ lb rfl rfl rfl rfl (by rw [hz2]; omega) hMb (Nat.le_refl _) ?_; intro w1 hown1 hgrow1; have hB1 := made_below hgrow1; obtain ⟨cur, hcur, hcl⟩ := made_cur hown1; have HCL : Hid (cur.length = lb) := hcl; have HCR : Hid (w1.heap[v.heap.size]? = some (.cells cur.toArray 5 (0, 0))) := hcur; clear hcl hcur hown1 hgrow1)
          | (refine wpList_copy_splice rfl (.tmp 56) (.tmp 57) 22 22 rfl 5 Try.underlying22 size5 (some ⟨v.heap.size, 0, none⟩) (some x) lb lb lb cb rfl rfl v.heap.size 0 cur 5 HCR.out (B.map (Value.int .u8)) (by rw [List.length_map, HB.out]; exact (Nat.min_self _).symm) (copy_src hB1 HT.out HRB'.out) (by rw [List.length_map, HB.out, HCL.out]; omega) (ints_one B) v.heap.size v hB1 (Nat.le_refl _) ?_; intro w2 HG2 hB2; have HR2 : Hid (RowAt w2 (some ⟨v.heap.size, 0, none⟩) B) := rowAt_block (by have := HG2.out; rwa [splice_all _ _ (by rw [List.length_map, HB.out, HCL.out])] at this)))
        go_meet
        case rel => exact ⟨_, _, rfl, HR2.out, hB2⟩
    case rest =>
      obtain ⟨z, hz⟩ : ∃ z, z = wc := ⟨_, rfl⟩
      subst hz
      obtain ⟨b', cb', rfl, hrb, hb2⟩ := hcut
      have HA1 : Hid (RowAt z a' A) := rowAt_grown hb2 HRA'.out
      have HB1 : Hid (RowAt z b' B) := hrb
      have HZ : Hid (Below w.heap.size w z) := HB1w.out.trans (hb2.mono HB1w.out.size)
      clear hrb hb2 HRA' HRB' HB1w
      go_wp2_with (first
        | (at_make; refine wpList_make_own _ rfl _ _ 22 rfl z.heap.size 5 i0 (.int .u8 0) 1 Try.underlying22 hi hz0 hz1 _ _ _ (la + lb) rfl rfl (by omega) (by rw [hz2]; omega) (by unfold maxLen; omega) (Nat.le_refl _) ?_; intro w5 hown5 hgrow5; have hB5 := made_below hgrow5; have HO5 : Hid (w5.ownsRow z.heap.size 5 1 (.slice (some ⟨z.heap.size, 0, none⟩) 0 (la + lb)) 0 []) := hown5; clear hown5 hgrow5))
      go_loopw [9, 10] (fun s i wr => ∃ k : Nat, k ≤ la ∧ i = .int .i64 k ∧ s = .slice (some ⟨z.heap.size, 0, none⟩) k (la + lb) ∧ wr.ownsRow z.heap.size 5 1 (.slice (some ⟨z.heap.size, 0, none⟩) k (la + lb)) k ((A.take k).map (Value.int .u8)) ∧ Below z.heap.size z wr) (fun _ i _ => la - (intOf i).toNat)
      case atStart => exact ⟨0, Nat.zero_le _, rfl, rfl, HO5.out, hB5⟩
      case round =>
        obtain ⟨k, hk, rfl, rfl, hown, hB⟩ := hrel
        by_cases hlt : k < la
        · have hkl : k < A.length := by rw [HA.out]; exact hlt
          obtain ⟨b0, off, ha, hc⟩ := HA1.out (by omega)
          obtain ⟨c, hcd⟩ : ∃ c, c = A.getD k 0 := ⟨_, rfl⟩
          have hcell : wr.cell? ⟨b0, off + k, none⟩ = some (.int .u8 c) := by
            rw [hcd, hB.cell (p := ⟨b0, off + k, none⟩) (lt_of_row HA1.out (by omega) ⟨b0, off, none⟩ ha)]; exact hc k hkl
          subst ha
          have HC : Hid (c = A.getD k 0) := hcd
          have HO : Hid (wr.ownsRow z.heap.size 5 1 (.slice (some ⟨z.heap.size, 0, none⟩) k (la + lb)) k ((A.take k).map (Value.int .u8))) := hown
          clear hcd hc hown HO5 hB5
          go_wp2_with (first
            | (at_builtin; refine wpList_append_fits _ rfl _ _ 22 rfl z.heap.size 5 i0 1 Try.underlying22 hi hz1 z.heap.size k (la + lb) ((A.take k).map (Value.int .u8)) rfl (HO.out.alloc _) ⟨wr.heap.size, 0, none⟩ 1 1 [.int .u8 c] rfl rfl (cell_one_new _ _ _) (ints_oneCell .u8 [c]) (by omega) ?_; intro w6 hown6 hgrow6; have HO6 : Hid (w6.ownsRow z.heap.size 5 1 (.slice (some ⟨z.heap.size, 0, none⟩) (k + 1) (la + lb)) (k + 1) ((A.take k).map (Value.int .u8) ++ [.int .u8 c])) := hown6; have hB6 := push_step hB hgrow6; clear hown6 hgrow6))
          go_roundw
          case rel => exact ⟨k + 1, by omega, by go_num, rfl, by rw [← push_list A k c hkl HC.out]; exact HO6.out, hB6⟩
          case measure => simp [intOf]; omega
        · have hge : la ≤ k := by omega
          obtain rfl : k = la := by omega
          have HO : Hid (wr.ownsRow z.heap.size 5 1 (.slice (some ⟨z.heap.size, 0, none⟩) k (k + lb)) k (A.map (Value.int .u8))) := by
            have e : A.take k = A := List.take_of_length_le (by rw [HA.out]; exact Nat.le_refl _)
            rw [e] at hown; exact hown
          clear hown HO5 hB5
          go_wp2
          obtain ⟨y, hy⟩ : ∃ y, y = wr := ⟨_, rfl⟩
          subst hy
          go_loopw [9, 11] (fun s i wr => ∃ j : Nat, j ≤ lb ∧ i = .int .i64 j ∧ s = .slice (some ⟨z.heap.size, 0, none⟩) (k + j) (k + lb) ∧ wr.ownsRow z.heap.size 5 1 (.slice (some ⟨z.heap.size, 0, none⟩) (k + j) (k + lb)) (k + j) (A.map (Value.int .u8) ++ (B.take j).map (Value.int .u8)) ∧ Below z.heap.size z wr) (fun _ i _ => lb - (intOf i).toNat)
          case atStart => exact ⟨0, Nat.zero_le _, rfl, rfl, by simpa using HO.out, hB⟩
          case round =>
            obtain ⟨j, hj, rfl, rfl, hown2, hB2⟩ := hrel
            by_cases hlt2 : j < lb
            · have hjl : j < B.length := by rw [HB.out]; exact hlt2
              obtain ⟨b0, off, hb, hc⟩ := HB1.out (by omega)
              obtain ⟨c, hcd⟩ : ∃ c, c = B.getD j 0 := ⟨_, rfl⟩
              have hcell : wr.cell? ⟨b0, off + j, none⟩ = some (.int .u8 c) := by
                rw [hcd, hB2.cell (p := ⟨b0, off + j, none⟩) (lt_of_row HB1.out (by omega) ⟨b0, off, none⟩ hb)]; exact hc j hjl
              subst hb
              have HC : Hid (c = B.getD j 0) := hcd
              have HO2 : Hid (wr.ownsRow z.heap.size 5 1 (.slice (some ⟨z.heap.size, 0, none⟩) (k + j) (k + lb)) (k + j) (A.map (Value.int .u8) ++ (B.take j).map (Value.int .u8))) := hown2
              clear hcd hc hown2
              go_wp2_with (first
                | (at_builtin; refine wpList_append_fits _ rfl _ _ 22 rfl z.heap.size 5 i0 1 Try.underlying22 hi hz1 z.heap.size (k + j) (k + lb) (A.map (Value.int .u8) ++ (B.take j).map (Value.int .u8)) rfl (HO2.out.alloc _) ⟨wr.heap.size, 0, none⟩ 1 1 [.int .u8 c] rfl rfl (cell_one_new _ _ _) (ints_oneCell .u8 [c]) (by omega) ?_; intro w6 hown6 hgrow6; have HO6 : Hid (w6.ownsRow z.heap.size 5 1 (.slice (some ⟨z.heap.size, 0, none⟩) (k + j + 1) (k + lb)) (k + j + 1) (A.map (Value.int .u8) ++ (B.take j).map (Value.int .u8) ++ [.int .u8 c])) := hown6; have hB6 := push_step hB2 hgrow6; clear hown6 hgrow6))
              go_roundw
              case rel => exact ⟨j + 1, by omega, by go_num, rfl, by rw [← push_list B j c hjl HC.out, ← List.append_assoc]; exact HO6.out, hB6⟩
              case measure => simp [intOf]; omega
            · have hge2 : lb ≤ j := by omega
              obtain rfl : j = lb := by omega
              have HR9 : Hid (RowAt wr (some ⟨z.heap.size, 0, none⟩) (A ++ B)) := by
                have e : B.take j = B := List.take_of_length_le (by rw [HB.out]; exact Nat.le_refl _)
                rw [e, ← List.map_append] at hown2
                refine rowAt_owns (base := z.heap.size) (cap := k + j) ?_
                have e2 : (A ++ B).length = k + j := by rw [List.length_append, HA.out, HB.out]
                rw [e2]; exact hown2
              have HA2 : Hid (RowAt wr a' A) := rowAt_grown hB2 HA1.out
              have HB2 : Hid (RowAt wr b' B) := rowAt_grown hB2 HB1.out
              have HW : Hid (Below w.heap.size w wr) := HZ.out.trans (hB2.mono HZ.out.size)
              clear hown2 HA1 HB1 HZ hB2 hB HO
              go_wp2
              go_loop [12, 13] (fun p i => ∃ t : Nat, t ≤ j ∧ i = .int .i64 t ∧ p = .int .u32 (16 ^ t % 4294967296)) (fun _ i => j - (intOf i).toNat)
              case atStart => exact ⟨0, Nat.zero_le _, rfl, by simp⟩
              case round =>
                obtain ⟨t, ht, rfl, rfl⟩ := hrel
                obtain ⟨q, hq⟩ : ∃ q : Int, q = 16 ^ t % 4294967296 := ⟨_, rfl⟩
                rw [← hq]
                by_cases hcont : t < j ∧ (q != 0) = true
                · obtain ⟨hlt3, hp⟩ := hcont
                  have HQ : Hid (q = 16 ^ t % 4294967296) := hq
                  clear hq
                  go_wp2
                  go_round
                  case rel => exact ⟨t + 1, by omega, by go_num, by rw [HQ.out, pw_step]⟩
                  case measure => simp [intOf]; omega
                · have HQ : Hid (q = 16 ^ B.length % 4294967296) := by
                    show q = _
                    rw [HB.out]
                    by_cases hlt3 : t < j
                    · have hz : q = 0 := by
                        by_cases h : q = 0
                        · exact h
                        · exact absurd ⟨hlt3, by simpa using h⟩ hcont
                      rw [hz, pw_stop t j (by omega) (by rw [← hq]; exact hz)]
                    · obtain rfl : t = j := by omega
                      exact hq
                  have hlab : (A ++ B).length = k + j := by rw [List.length_append, HA.out, HB.out]
                  have HLAB : Hid ((A ++ B).length = k + j) := hlab
                  have XAB : Hid ((A ++ B).all isHex = true) := by show _ = true; rw [List.all_append, XA.out, XB.out]; rfl
                  obtain ⟨nA, hnA⟩ : ∃ n, n = wrap32 (num A) := ⟨_, rfl⟩
                  obtain ⟨nB, hnB⟩ : ∃ n, n = wrap32 (num B) := ⟨_, rfl⟩
                  obtain ⟨nAB, hnAB⟩ : ∃ n, n = wrap32 (num (A ++ B)) := ⟨_, rfl⟩
                  obtain ⟨vd, hvd⟩ : ∃ n, n = hexVal d := ⟨_, rfl⟩
                  have hT := sum_test A B q nA nB nAB hnA hnB hnAB HQ.out
                  have hv0 : 0 ≤ vd := by rw [hvd]; exact (hexVal_bd d).1
                  have hv1 : vd < 16 := by rw [hvd]; exact (hexVal_bd d).2
                  have NA : Hid (nA = wrap32 (num A)) := hnA
                  have NB : Hid (nB = wrap32 (num B)) := hnB
                  have NAB : Hid (nAB = wrap32 (num (A ++ B))) := hnAB
                  have VD : Hid (vd = hexVal d) := hvd
                  clear hnA hnB hnAB hvd
                  clear hq hlab HQ
                  have hz : t < j → (q != 0) = false := by
                    intro hlt3
                    by_cases h : (q != 0) = true
                    · exact absurd ⟨hlt3, h⟩ hcont
                    · simpa using h
                  clear hcont
                  by_cases hlt3 : t < j
                  all_goals
                    go_wp2_with fail
                    refine (zzHexRune_val _ _ _ (A ++ B) nAB _ NAB.out HLAB.out h1 HR9.out XAB.out).mono ?_
                    rintro e w' ⟨rfl, hw⟩
                    subst w'
                    go_wp2_with fail
                    refine (zzHexRune_val _ _ _ A nA _ NA.out HA.out h1a HA2.out XA.out).mono ?_
                    rintro e w' ⟨rfl, hw⟩
                    subst w'
                    go_wp2_with fail
                    refine (zzHexRune_val _ _ _ B nB _ NB.out HB.out h1b HB2.out XB.out).mono ?_
                    rintro e w' ⟨rfl, hw⟩
                    subst w'
                    go_wp2_with fail
                    refine (swapCase_any _ _ _ (A ++ B) _ HLAB.out h1 HR9.out).mono ?_
                    rintro e w7 ⟨rfl, hr7, hb7⟩
                    have HR7 : Hid (RowAt w7 (some ⟨wr.heap.size, 0, none⟩) ((A ++ B).map swapC)) := hr7
                    have HW7 : Hid (Below w.heap.size w w7) := HW.out.trans (hb7.mono HW.out.size)
                    clear hr7 hb7
                    go_wp2_with fail
                    refine (zzHexRune_val _ _ _ ((A ++ B).map swapC) nAB _ (by rw [num_swap _ XAB.out]; exact NAB.out) (by rw [List.length_map]; exact HLAB.out) h1 HR7.out (swap_all _ XAB.out)).mono ?_
                    rintro e w' ⟨rfl, hw⟩
                    subst w'
                    go_wp2_with fail
                    refine (zzHexRune_val _ _ _ [d] vd _ (by rw [VD.out]; exact one_val d) rfl (by simp) (rowAt_one _ _) (by simp [xd])).mono ?_
                    rintro e w' ⟨rfl, hw⟩
                    subst w'
                    go_wp2_with fail
                    refine (hexVal_val _ vd xd VD.out _).mono ?_
                    rintro e w' ⟨rfl, hw⟩
                    subst w'
                    go_wp2_with fail
                    go_ret
                    exact ⟨rfl, HW7.out.alloc HW7.out.size _⟩

/-- THE GUARDS: where one of them shuts the input out the law answers true at once. -/
theorem guards (a : Option Addr) (la ca : Nat) (A : List Int) (b : Option Addr) (lb cb : Nat) (B : List Int) (d : Int) (w : World)
    (hA : A.length = la) (hB : B.length = lb) (hMa : la ≤ maxLen) (hMb : lb ≤ maxLen) (hra : RowAt w a A) (hrb : RowAt w b B) :
    Calls Try.prog 4 #[.slice a la ca, .slice b lb cb, .int .u8 d] w fun e w' => e = .returned (.bool true) ∧ Below w.heap.size w w' := by
  by_cases h1 : la + lb ≤ 1048576
  · by_cases h2 : la ≤ 524288
    · by_cases h3 : lb ≤ 524288
      · have HA : Hid (A.length = la) := hA
        have HB : Hid (B.length = lb) := hB
        have h1a : la ≤ 1048576 := by omega
        have h1b : lb ≤ 1048576 := by omega
        cases xa : A.all isHex with
        | true =>
          cases xb : B.all isHex with
          | true =>
            cases xd : isHex d with
            | true => exact core a la ca A b lb cb B d w hA hB h1 h2 h3 hra hrb xa xb xd
            | false =>
              have XA : Hid (A.all isHex = true) := xa
              have XB : Hid (B.all isHex = true) := xb
              clear xa xb hA hB
              go_enter Try.func4, Try.ntmps4
              go_wp2_with (first
                | (go_at_call 9; refine (bytesTwo_any _ _ _ _ _ _ _ hMa hMb _).mono ?_; rintro e w' ⟨rfl, hw⟩; subst w')
                | (go_at_call_of 6 a; refine (allHex_any _ _ _ A _ HA.out h1a hra).mono ?_; rintro e w' ⟨rfl, hw⟩; subst w'; rw [XA.out])
                | (go_at_call_of 6 b; refine (allHex_any _ _ _ B _ HB.out h1b hrb).mono ?_; rintro e w' ⟨rfl, hw⟩; subst w'; rw [XB.out])
                | (go_at_call 10; refine (isHex_any _ _).mono ?_; rintro e w' ⟨rfl, hw⟩; subst w'))
              go_ret
              exact ⟨rfl, Below.refl _ _⟩
          | false =>
            have XA : Hid (A.all isHex = true) := xa
            have XB : Hid (B.all isHex = false) := xb
            clear xa xb hA hB
            go_enter Try.func4, Try.ntmps4
            go_wp2_with (first
              | (go_at_call 9; refine (bytesTwo_any _ _ _ _ _ _ _ hMa hMb _).mono ?_; rintro e w' ⟨rfl, hw⟩; subst w')
              | (go_at_call_of 6 a; refine (allHex_any _ _ _ A _ HA.out h1a hra).mono ?_; rintro e w' ⟨rfl, hw⟩; subst w'; rw [XA.out])
              | (go_at_call_of 6 b; refine (allHex_any _ _ _ B _ HB.out h1b hrb).mono ?_; rintro e w' ⟨rfl, hw⟩; subst w'; rw [XB.out]))
            go_ret
            exact ⟨rfl, Below.refl _ _⟩
        | false =>
          have XA : Hid (A.all isHex = false) := xa
          clear xa hA hB
          go_enter Try.func4, Try.ntmps4
          go_wp2_with (first
            | (go_at_call 9; refine (bytesTwo_any _ _ _ _ _ _ _ hMa hMb _).mono ?_; rintro e w' ⟨rfl, hw⟩; subst w')
            | (go_at_call_of 6 a; refine (allHex_any _ _ _ A _ HA.out h1a hra).mono ?_; rintro e w' ⟨rfl, hw⟩; subst w'; rw [XA.out]))
          go_ret
          exact ⟨rfl, Below.refl _ _⟩
      · go_enter Try.func4, Try.ntmps4
        go_wp2_with (go_at_call 9; refine (bytesTwo_any _ _ _ _ _ _ _ hMa hMb _).mono ?_; rintro e w' ⟨rfl, hw⟩; subst w')
        go_ret
        exact ⟨rfl, Below.refl _ _⟩
    · go_enter Try.func4, Try.ntmps4
      go_wp2_with (go_at_call 9; refine (bytesTwo_any _ _ _ _ _ _ _ hMa hMb _).mono ?_; rintro e w' ⟨rfl, hw⟩; subst w')
      go_ret
      exact ⟨rfl, Below.refl _ _⟩
  · go_enter Try.func4, Try.ntmps4
    go_wp2_with (go_at_call 9; refine (bytesTwo_any _ _ _ _ _ _ _ hMa hMb _).mono ?_; rintro e w' ⟨rfl, hw⟩; subst w')
    go_ret
    exact ⟨rfl, Below.refl _ _⟩

/-- A slice that came in, as the walks take it. -/
theorem taken {w : World} {a : Option Addr} {len cap : Nat} {zs : List Int} (h : IsRow .u8 w a len cap zs) : (zs.take len).length = len ∧ len ≤ maxLen ∧ RowAt w a (zs.take len) := by
  rcases h with ⟨rfl, rfl, rfl, rfl⟩ | ⟨x, rfl, hlc, hcm, hz, hcell, hwf⟩
  · exact ⟨rfl, by unfold maxLen; omega, fun h => absurd h (by simp)⟩
  · refine ⟨by rw [List.length_take]; omega, by omega, ?_⟩
    intro hl
    have h0 : 0 < len := by rw [List.length_take] at hl; omega
    obtain ⟨b, off, spot⟩ := x
    have hspot : spot = none := by simpa [Addr.add] using World.cell?_spot (hcell 0 (by omega))
    subst hspot
    refine ⟨b, off, rfl, fun i hi => ?_⟩
    have hi' : i < len := by rw [List.length_take] at hi; omega
    have h := hcell i (by omega)
    rw [show (⟨b, off, none⟩ : Addr).add i = ⟨b, off + i, none⟩ from add_plain b off i] at h
    simpa [List.getElem?_take, hi'] using h

theorem walk (a0 : Option Addr) (len0 cap0 : Nat) (z0 : List Int) (a1 : Option Addr) (len1 cap1 : Nat) (z1 : List Int) (a2 : Int) (w : World) (w0 : IsRow .u8 w a0 len0 cap0 z0) (w1 : IsRow .u8 w a1 len1 cap1 z1) (w2 : (Lit.int .u8 a2).wf = true) :
    Calls Try.prog 4 #[.slice a0 len0 cap0, .slice a1 len1 cap1, .int .u8 a2] w fun e w' => e = .returned (.bool true) ∧ Below w.heap.size w w' := by
  obtain ⟨la, ma, ra⟩ := taken w0
  obtain ⟨lb, mb, rb⟩ := taken w1
  exact guards a0 len0 cap0 _ a1 len1 cap1 _ a2 w la lb ma mb ra rb

/-! ### THE ROW's STEP: WRITTEN OUT: LEAVE IT -/
set_option maxRecDepth 100000 in
theorem lifted (os : Os) (started : os.Started) (H : Type) (enc : TypeId × Value → H) :
    ReturnsInHanded {} Try.checked os 4 .any (Rows.fnHexRuneSplitsAtAnyCutAndIgnoresCaseSpec.pre6 enc Try.prog Try.f4 Rows.fnHexRuneSplitsAtAnyCutAndIgnoresCaseRow.domain false) (Rows.fnHexRuneSplitsAtAnyCutAndIgnoresCaseSpec.post enc Try.prog Try.f4 false true false false) := by
  refine returnsInHanded_of_change (C := Try.checked) own started (by kernel_rfl) Try.func4
    (ChangeSpec.witness6 (enc := enc) (C := Try.checked) false ⟨#[], #[.slice none 0 0, .slice none 0 0, .int .u8 0], []⟩ 8 (by kernel_rfl) (by kernel_rfl) (by kernel_rfl) (by kernel_rfl)) ?_
  intro W base args ds gs before hval0 hW hcnd _
  have hval : ∀ (j : Nat) t v, Try.f4.params[j]? = some t → args[j]? = some v → Value.okWide Try.prog W .any base t v := hval0
  have hW' := hW
  obtain ⟨p, q, hA0, hV, rfl, hfz, hnd⟩ := hW
  have hA : DataW.TrodAll enc Try.prog W 0 (fun _ => true) true Try.f4.params.toList args.toList ds p := hA0
  rw [Try.params4] at hA hval
  obtain ⟨v0, vs0, d0, ds0, p0, q0, hargs, rfl, rfl, h0, r0⟩ := trodAll_cons hA
  obtain ⟨v1, vs1, d1, ds1, p1, q1, rfl, rfl, rfl, h1, r1⟩ := trodAll_cons r0
  obtain ⟨v2, vs2, d2, ds2, p2, q2, rfl, rfl, rfl, h2, r2⟩ := trodAll_cons r1
  obtain ⟨rfl, rfl, rfl⟩ := trodAll_nil r2
  obtain rfl : args = #[v0, v1, v2] := by cases args; simp_all
  obtain ⟨rfl, rfl⟩ := trodVars_none hV
  obtain ⟨a0, len0, cap0, rfl⟩ := okWide_slice Try.underlying22 (hval 0 22 v0 rfl rfl)
  have k0 := h0
  have lt0 : ∀ x ∈ p0, x.block < W.heap.size := by obtain ⟨m, hm⟩ := k0; exact DataW.trod_lt m _ _ _ hm
  obtain ⟨z0, w0⟩ : ∃ zs, IsRow .u8 W a0 len0 cap0 zs := by
    obtain ⟨fuel, hf⟩ := h0
    rcases open_ints Try.underlying22 Try.underlying5 (by kernel_rfl) hf with ⟨hcs, _⟩ | ⟨x, l, c, zs, hcs, _, hl, hm, hz, _, hcell, hwz⟩
    · simp [Value.cells] at hcs
      obtain ⟨rfl, rfl, rfl⟩ := hcs
      exact ⟨[], .inl ⟨rfl, rfl, rfl, rfl⟩⟩
    · simp [Value.cells] at hcs
      obtain ⟨rfl, rfl, rfl⟩ := hcs
      exact ⟨zs, .inr ⟨_, rfl, hl, hm, by simpa using hz, hcell, hwz⟩⟩
  obtain ⟨a1, len1, cap1, rfl⟩ := okWide_slice Try.underlying22 (hval 1 22 v1 rfl rfl)
  have k1 := h1
  have lt1 : ∀ x ∈ p1, x.block < W.heap.size := by obtain ⟨m, hm⟩ := k1; exact DataW.trod_lt m _ _ _ hm
  obtain ⟨z1, w1⟩ : ∃ zs, IsRow .u8 W a1 len1 cap1 zs := by
    obtain ⟨fuel, hf⟩ := h1
    rcases open_ints Try.underlying22 Try.underlying5 (by kernel_rfl) hf with ⟨hcs, _⟩ | ⟨x, l, c, zs, hcs, _, hl, hm, hz, _, hcell, hwz⟩
    · simp [Value.cells] at hcs
      obtain ⟨rfl, rfl, rfl⟩ := hcs
      exact ⟨[], .inl ⟨rfl, rfl, rfl, rfl⟩⟩
    · simp [Value.cells] at hcs
      obtain ⟨rfl, rfl, rfl⟩ := hcs
      exact ⟨zs, .inr ⟨_, rfl, hl, hm, by simpa using hz, hcell, hwz⟩⟩
  obtain ⟨a2, rfl, rfl, rfl, w2⟩ := open_int Try.underlying5 (hval 2 5 v2 rfl rfl) h2
  clear hA0 hval0
  refine (walk a0 len0 cap0 z0 a1 len1 cap1 z1 a2 W w0 w1 w2).mono fun e W' ⟨he, bel⟩ => ?_
  subst he
  exact ⟨_, rfl, _, _, _, [], _, [], hW', trodAll_mk1 (shut_bool Try.underlying4 _), (trodAll_cons_mk (Below.trod laidOut (by kernel_rfl) (of_decide_eq_true (by kernel_rfl)) k0 bel lt0) (trodAll_cons_mk (Below.trod laidOut (by kernel_rfl) (of_decide_eq_true (by kernel_rfl)) k1 bel lt1) (trodAll_cons_mk (shut_int Try.underlying5 w2) trodAll_mk0))), rfl, bel.frame _, fun h => by cases h⟩

theorem over : Rows.fnHexRuneSplitsAtAnyCutAndIgnoresCaseRow.holds Try.pinned (OpenSpec.ofChange Rows.fnHexRuneSplitsAtAnyCutAndIgnoresCaseSpec) :=
  OpenClaim.holds_of_wide 4 Try.f4 rfl rfl rfl rfl rfl rfl rfl ⟨rfl, rfl, rfl, rfl, rfl⟩ rfl rfl rfl rfl rfl (by kernel_rfl) Try.func4 (by kernel_rfl)
    (of_decide_eq_true (by kernel_rfl)) (by unfold Func.isWrapper; first | (rw [if_pos (by decide +kernel)]; kernel_rfl) | (rw [if_neg (by decide +kernel)]; exact ⟨rfl, rfl⟩))
    (fun os started H enc _ => lifted os started H enc)

/-- THE STATEMENT -/
theorem proved : Rows.FnHexRuneSplitsAtAnyCutAndIgnoresCaseSaid := over
end Go.Proofs.Qxb6617803a.fnHexRuneSplitsAtAnyCutAndIgnoresCase
