import Derived.Test.Qxb6613471aLw
import Derived.Test.Qxb6613471aLe
import Derived.Test.Qxb6613471aNx
import Derived.Test.Qxb6613471aSb
import Derived.Test.Qxb6613471aRx
import Derived.Test.Qxb6613471aB1
import Derived.Deep.CutBlock
import Derived.Deep.DeepCutAuto
import Derived.Deep.LoopGhost
import Derived.Deep.OwnRows
import Derived.Test.Qxb6613471aZs
namespace Go.Proofs.Qxb6613471a
open Go.RowKit

theorem Ex.rv_apart {B eB mr mw : Nat} {subs : List (Nat × Nat)} {runs : List Nat} {rs : Array MapEntry} {rc : Nat} {Ws : List Wt} {w : World} (h : Ex B eB mr mw subs runs rs rc Ws w) : ∃ sv rv, ExV B eB mr mw sv rv subs runs rs rc Ws w ∧ ∀ b, w.heap.size ≤ b → rv.ownBlock ≠ some b := by
  obtain ⟨sv, rv, hv⟩ := h.v
  refine ⟨sv, rv, hv, fun b hb e => ?_⟩
  obtain ⟨cs, wv, a1, a2, a3, a4, a5, a6, a7, a8, a9⟩ := hv
  have := (a8.lt b e).2
  omega

set_option maxHeartbeats 16000000 in
set_option maxRecDepth 100000 in
theorem flags_long (x0 x1 : Addr) (len cap0 cap1 : Nat) (z0 z1 : List Int) (a2 : Int) (a3 a4 a5 : ByteArray) (na6 : Nat) (a7 a8 : ByteArray) (k supi : Nat) (w : World)
    (c0 : ∀ i, i < z0.length → w.cell? (x0.add i) = some (.int .u32 (z0.getD i 0))) (c1 : ∀ i, i < z1.length → w.cell? (x1.add i) = some (.int .u32 (z1.getD i 0)))
    (l0 : len ≤ z0.length) (l1 : len ≤ z1.length) (f0 : ∀ n ∈ z0, (Lit.int .u32 n).wf = true) (f1 : ∀ n ∈ z1, (Lit.int .u32 n).wf = true)
    (w3 : a3.size ≤ maxLen) (w4 : a4.size ≤ maxLen) (w5 : a5.size ≤ maxLen) (w6 : na6 < 65536) (w7 : a7.size ≤ maxLen) (w8 : a8.size ≤ maxLen) (w9 : k < 4294967296) (hlen : len ≤ maxLen) :
    Calls Try.prog 4 #[.slice (some x0) len cap0, .slice (some x1) len cap1, .int .i64 a2, .string a3, .string a4, .string a5, .int .u16 (na6 : Int), .string a7, .string a8, .int .u32 (k : Int), .int .u32 (supi : Int)] w fun e w' => e = .returned (.bool true) ∧ Below w.heap.size w w' := by
  have hsz := sz18 (some x0) (some x1) len cap0 len cap1 a2 a3 a4 a5 na6 a7 a8 k supi w hlen hlen w3 w4 w5 w7 w8
  have HSZ := hide hsz
  have hpos : ∀ j, j < len → 0 ≤ z0.getD j 0 ∧ z0.getD j 0 < 4294967296 ∧ 0 ≤ z1.getD j 0 ∧ z1.getD j 0 < 4294967296 := fun j hj => by
    have e0 : z0.getD j 0 ∈ z0 := by rw [List.getD_eq_getElem?_getD, List.getElem?_eq_getElem (by omega)]; exact List.getElem_mem _
    have e1 : z1.getD j 0 ∈ z1 := by rw [List.getD_eq_getElem?_getD, List.getElem?_eq_getElem (by omega)]; exact List.getElem_mem _
    have q0 := wf_u32 (f0 _ e0)
    have q1 := wf_u32 (f1 _ e1)
    exact ⟨q0.1, q0.2, q1.1, q1.2⟩
  have hq0 : ∀ j, j < len → w.cell? (x0.add j) = some (.int .u32 (((z0.getD j 0).toNat : Nat) : Int)) := fun j hj => by
    rw [c0 j (by omega), Int.toNat_of_nonneg (hpos j hj).1]
  have hq1 : ∀ j, j < len → w.cell? (x1.add j) = some (.int .u32 (((z1.getD j 0).toNat : Nat) : Int)) := fun j hj => by
    rw [c1 j (by omega), Int.toNat_of_nonneg (hpos j hj).2.2.1]
  have h32 : ∀ n, n ≤ len → ∀ q ∈ pairs z0 z1 n, q.1 < 4294967296 ∧ q.2 < 4294967296 := fun n hn q hq => by
    simp only [pairs, List.mem_map, List.mem_range] at hq
    obtain ⟨j, hj, rfl⟩ := hq
    have := hpos j (by omega)
    simp only
    omega
  have HQ0 := hide hq0
  have HQ1 := hide hq1
  have H32 := hide h32
  clear hsz c0 c1 f0 f1 w3 w4 w5 w7 w8 hpos hq0 hq1 h32
  go_enter Try.func4, Try.ntmps4
  go_upto_region 13 with (first | (go_at_call 18; refine HSZ.out.mono ?_; rintro e w2 ⟨⟨t, rfl⟩, hw2⟩; replace hw2 := hw2.symm; subst hw2; cases t))
  all_goals try (go_ret; exact ⟨rfl, Below.refl _ _⟩)
  rename_i g9 g8 g7 g6 g5 g4 g3 g2 g1 g0 K0 HK0
  clear HSZ hlen
  have hm4 : a4.size % 4 = 0 := by simp at g0; omega
  obtain ⟨i, rfl⟩ : ∃ i : Nat, a2 = (i : Int) := ⟨a2.toNat, by omega⟩
  have hil : i < len := by omega
  have hlen : len ≤ 4096 := by omega
  have s3 : a3.size ≤ 131072 := by omega
  have s4 : a4.size ≤ 131072 := by omega
  have s7 : a7.size ≤ 131072 := by omega
  have s8 : a8.size ≤ 131072 := by omega
  clear g9 g8 g7 g6 g5 g4 g3 g2 g1 g0
  go_wp2_with fail
  refine (newx_any w).mono ?_
  rintro e W1 ⟨eB, mr, mw, rfl, hx1, k1⟩
  have HX1 := hide hx1
  have HK1 := hide k1
  clear hx1 k1
  go_wp2_with fail
  refine (wid_any w.heap.size eB mr mw [] [] #[] 0 [] ⟨⟨#[]⟩, a7, ⟨#[]⟩, a8, ⟨#[]⟩, 0, 0⟩ _ HX1.out (by simp)).mono ?_
  rintro e W2 ⟨rfl, hx2, fr2⟩
  generalize hoW : (⟨⟨#[]⟩, a7, ⟨#[]⟩, a8, ⟨#[]⟩, 0, 0⟩ : Wt) = oW at *
  have HOW := hide hoW
  have HX2 := hide hx2
  have HF2 := hide ((Fr.nil (B := w.heap.size) (T := [94, 97, 102, 107]) (M := [mr, mw]) HK1.out (Nat.le_refl _)).trans (fr2.mono (by simp) (by simp)))
  clear hx2 fr2 hoW HX1 HK1
  have n1 := addW_len [] oW
  have t1 := addW_get [] oW
  generalize addW [] oW = P1 at *
  have HT1 := hide t1
  clear t1
  go_wp2_with fail
  refine (wid_any w.heap.size eB mr mw [] [] #[] 0 P1.1 ⟨⟨#[]⟩, a3, a5, a4, ⟨#[]⟩, 0, (na6 : Int)⟩ _ HX2.out (by simp at n1; omega)).mono ?_
  rintro e W3 ⟨rfl, hx3, fr3⟩
  generalize hrW : (⟨⟨#[]⟩, a3, a5, a4, ⟨#[]⟩, 0, (na6 : Int)⟩ : Wt) = rW at *
  have HRW := hide hrW
  have HX3 := hide hx3
  have HF3 := hide (HF2.out.trans (fr3.mono (T' := [94, 97, 102, 107]) (M' := [mr, mw]) (by simp) (by simp)))
  clear hx3 fr3 hrW HX2 HF2
  have n2 := addW_len P1.1 rW
  have t2 := addW_get P1.1 rW
  have o2 := addW_old P1.1 rW HT1.out
  generalize addW P1.1 rW = P2 at *
  have HT2 := hide (And.intro t2 o2)
  clear t2 o2 HT1
  go_wp2_with fail
  refine (zrid_any w.heap.size eB mr mw [] P2.1 P1.2 _ HX3.out).mono ?_
  rintro e W4 ⟨rfl, ⟨rs, rc, hx4⟩, fr4⟩
  have HX4 := hide hx4
  have HF4 := hide (HF3.out.trans (fr4.mono (T' := [94, 97, 102, 107]) (M' := [mr, mw]) (by simp) (by simp)))
  clear hx4 fr4 HX3 HF3
  go_wp2_with fail
  go_loopg [26] len (fun g c W => ∃ j, j ≤ len ∧ g = len - j ∧ c = .int .i64 (j : Int) ∧ Hid (Ex w.heap.size eB mr mw (pairs z0 z1 j) [P1.2] rs rc P2.1 W ∧ Fr w.heap.size [94, 97, 102, 107] [mr, mw] w W))
  case atStart => exact ⟨0, by omega, rfl, rfl, hide ⟨HX4.out, HF4.out⟩⟩
  case round =>
    obtain ⟨j, hj, rfl, rfl, HQ⟩ := hrel
    by_cases hlt : j < len
    · have hk0 : (0 : Int) ≤ (j : Int) := by omega
      have hk1 : (j : Int) < (len : Int) := by omega
      obtain ⟨u, hu⟩ : ∃ u : Nat, (z0.getD j 0).toNat = u := ⟨_, rfl⟩
      obtain ⟨v, hv⟩ : ∃ v : Nat, (z1.getD j 0).toNat = v := ⟨_, rfl⟩
      have q0 := HQ0.out j hlt
      have q1 := HQ1.out j hlt
      have hsuc := pairs_succ z0 z1 j
      rw [hu] at q0 hsuc
      rw [hv] at q1 hsuc
      have hall : ∀ W, Fr w.heap.size [94, 97, 102, 107] [mr, mw] w W → W.cell? (x0.add j) = some (.int .u32 (u : Int)) ∧ W.cell? (x1.add j) = some (.int .u32 (v : Int)) := fun W f =>
        ⟨by rw [f.below.cell (cell_lt q0)]; exact q0, by rw [f.below.cell (cell_lt q1)]; exact q1⟩
      have HALL := hide hall
      have HSUC := hide hsuc
      have e0 := (HALL.out _ HQ.out.2).1
      have e1 := (HALL.out _ HQ.out.2).2
      clear hall hsuc hu hv q0 q1
      go_wp2_with fail
      go_region_with (first | (go_at_call 9; refine (addsub_any w.heap.size eB mr mw (pairs z0 z1 j) [P1.2] rs rc P2.1 (u, v) _ (by exact HQ.out.1.fr (Fr.nil (B := 0) (T := []) (M := []) (Kept.refl _ _).drew (Nat.zero_le _)) (by simp) (by simp) (by simp) (by simp) (by simp) (by simp)) (by rw [pairs_length]; omega)).mono ?_; rintro e w5 ⟨rfl, hx5, fr5⟩; have FX := hide (And.intro hx5 (HQ.out.2.drew.trans (fr5.mono (T' := [94, 97, 102, 107]) (M' := [mr, mw]) (by simp) (by simp)))); clear hx5 fr5))
      all_goals
        go_wp2
        go_roundg (len - (j + 1))
        case measure => omega
        case rel => exact ⟨j + 1, by omega, rfl, by go_num, hide ⟨by rw [HSUC.out]; exact FX.out.1, FX.out.2⟩⟩
    · obtain rfl : j = len := by omega
      have hiz : ¬ ((j : Int) < (j : Int)) := by omega
      clear HX4 HF4
      have hl2 : P2.1.length ≤ 2 := by simp at n1; omega
      clear n1 n2 l0 l1
      have hmk : ∀ W : World, (Instr.makeSlice 33 (.int .i64 (4 * (j : Int))) (.int .i64 (4 * (j : Int)))).run Try.prog W = .ok (.slice (some ⟨W.heap.size, 0, none⟩) (4 * j) (4 * j)) (W.alloc (.cells (madeCells #[.int .u8 0] (4 * j)) 5)) := fun W => by
        have := run_make_row' (P := Try.prog) 33 5 (.int .u8 0) 1 Try.underlying33 info5z rfl .i64 .i64 (4 * j) (by omega) (by omega) W
        rw [show ((4 * j : Nat) : Int) = 4 * (j : Int) from by omega] at this
        exact this
      have hw4 : IntKind.i64.wrap (4 * (j : Int)) = 4 * (j : Int) := by rw [IntKind.wrap_i64]; omega
      go_wp2_with fail
      clear hmk hw4
      have hst : (wr.alloc (.cells (madeCells #[.int .u8 0] (4 * j)) 5)).heap[wr.heap.size]? = some (.cells (Array.replicate (4 * (pairs z0 z1 j).length) (.int .u8 0)) 5 (0, 0)) := by
        rw [pairs_length, ← made_rep]; exact heap_alloc_new _ _
      have hxV : Ex w.heap.size eB mr mw (pairs z0 z1 j) [P1.2] rs rc P2.1 (wr.alloc (.cells (madeCells #[.int .u8 0] (4 * j)) 5)) := HQ.out.1.fr (Fr.nil (B := 0) (T := []) (M := []) ((Kept.refl _ _).alloc _) (Nat.zero_le _)) (by simp) (by simp) (by simp) (by simp) (by simp) (by simp)
      have hfV : Fr w.heap.size [94, 97, 102, 107] [mr, mw] w (wr.alloc (.cells (madeCells #[.int .u8 0] (4 * j)) 5)) := HQ.out.2.trans (Fr.nil ((Kept.refl _ _).alloc _) HQ.out.2.size)
      generalize wr.alloc (.cells (madeCells #[.int .u8 0] (4 * j)) 5) = V at *
      obtain ⟨sv, rv, hvV, hap⟩ := hxV.rv_apart
      have HSV := hide (And.intro hst (And.intro hvV (And.intro hap hfV)))
      clear hst hxV hvV hap hfV
      refine (newrun_any P2.2 V).mono ?_
      rintro e W6 ⟨rfl, hr6, k6⟩
      have hv6 := HSV.out.2.1.kept k6
      have hst6 := k6.at HSV.out.1 (by simp)
      have hf6 : Fr w.heap.size [94, 97, 102, 107] [mr, mw] w W6 := HSV.out.2.2.2.trans (Fr.nil k6 HSV.out.2.2.2.size)
      have H6 := hide (And.intro hv6 (And.intro hst6 (And.intro hf6 hr6)))
      clear hv6 hst6 hf6 hr6 k6
      go_wp2_with fail
      refine (count_any w.heap.size eB mr mw (pairs z0 z1 j) [P1.2] rs rc P2.1 W6 H6.out.1.ex).mono ?_
      rintro e w7 ⟨rfl, rfl⟩
      have hz1 := zseaf_any w.heap.size eB mr mw sv rv (pairs z0 z1 j) P1.2 rs rc P2.1 oW rW P2.2 V.heap.size wr.heap.size i k supi _ w7 H6.out.1 HT2.out.2 HT2.out.1 H6.out.2.2.2 HSV.out.2.2.2.size (HSV.out.2.2.1 _ (Nat.le_refl _)) H6.out.2.1 (pairs_get z0 z1 j i hil) (by rw [pairs_length]; omega) (by omega)
        (by rw [← HOW.out]; show a7.size ≤ _; omega) (by rw [← HOW.out]; show a8.size ≤ _; omega) (by rw [← HRW.out]; show a3.size ≤ _; omega) (by rw [← HRW.out]; show a4.size ≤ _; omega) w9 (H32.out j (Nat.le_refl _))
      rw [pairs_length] at hz1
      have HZ1 := hide hz1
      clear hz1
      go_wp2_with fail
      refine HZ1.out.mono ?_
      rintro e W8 ⟨rfl, H8⟩
      obtain ⟨v1, hv1, hx8, hr8, fr8⟩ := H8.out
      clear HZ1 H8
      have t3 := addW_get P2.1 v1
      have o3 := addW_old P2.1 v1 HT2.out.2
      have n3 := addW_len P2.1 v1
      generalize addW P2.1 v1 = P3 at *
      have hst8 := fr8.tag _ _ _ _ H6.out.2.1 (by decide)
      have hf8 : Fr w.heap.size [94, 97, 102, 107] [mr, mw] w W8 := H6.out.2.2.1.trans (fr8.mono (by simp) (by simp))
      have hsn1 : v1.comp.size ≤ 1048576 ∧ v1.sn.size ≤ 1048576 := by
        have hps : (packS [k]).size = 4 := by rw [Lib.size_eq]; exact packL_length [k]
        rw [hv1]
        simp only [outW]
        rw [← HRW.out]
        simp only [ByteArray.size_append, hps]
        omega
      have hz2 := zseaf_any w.heap.size eB mr mw sv rv (pairs z0 z1 j) P1.2 rs rc P3.1 oW v1 P3.2 V.heap.size wr.heap.size i k supi _ W8 hx8 o3 t3 hr8 HSV.out.2.2.2.size (HSV.out.2.2.1 _ (Nat.le_refl _)) hst8 (pairs_get z0 z1 j i hil) (by rw [pairs_length]; omega) (by omega)
        (by rw [← HOW.out]; show a7.size ≤ _; omega) (by rw [← HOW.out]; show a8.size ≤ _; omega) hsn1.1 hsn1.2 w9 (H32.out j (Nat.le_refl _))
      have htw := twice rW oW k i supi na6 w6 (by rw [← HRW.out]) (by rw [← HRW.out]; exact hm4) (pairs z0 z1 j) ((z0.getD i 0).toNat, (z1.getD i 0).toNat).2 (by rw [pairs_length]; exact hil) (agB (pairs z0 z1 j) i rW oW k supi ((z0.getD i 0).toNat, (z1.getD i 0).toNat).2 j && !spB i rW oW k j)
      rw [← hv1] at htw
      rw [htw] at hz2
      rw [pairs_length] at hz2
      have HZ2 := hide hz2
      have H8 := hide hf8
      have hn3 : P3.1.length ≤ P2.1.length + 1 := n3.2
      clear hz2 hf8 htw hv1 hx8 hr8 fr8 t3 o3 n3 hst8 hsn1
      go_wp2_with fail
      refine HZ2.out.mono ?_
      rintro e W9 ⟨rfl, H9⟩
      obtain ⟨v2, hv2, hx9, hr9, fr9⟩ := H9.out
      clear HZ2 H9
      rw [← HRW.out] at hv2
      have t4 := addW_get P3.1 v2
      have n4 := addW_len P3.1 v2
      have lt4 := addW_lt P3.1 v2
      generalize addW P3.1 v2 = P4 at *
      have hf9 : Fr w.heap.size [94, 97, 102, 107] [mr, mw] w W9 := H8.out.trans (fr9.mono (by simp) (by simp))
      rw [hv2] at t4
      have HN := hide (And.intro hx9 (And.intro hr9 (And.intro hf9 t4)))
      clear hx9 hr9 fr9 hf9 t4 hv2
      go_wp2_with fail
      refine (count_any w.heap.size eB mr mw (pairs z0 z1 j) [P1.2] rs rc P4.1 W9 HN.out.1.ex).mono ?_
      rintro e w10 ⟨rfl, rfl⟩
      go_wp2_with fail
      refine (runwatch_any V.heap.size P4.2 w10 (cell_get HN.out.2.1 rfl)).mono ?_
      rintro e w11 ⟨rfl, rfl⟩
      have q1 : (P4.2 : Int) < (P4.1.length : Int) := by omega
      have q2 : (0 : Int) ≤ (P4.2 : Int) := by omega
      have q3 : (P4.2 : Int) ≤ 10 := by omega
      have q4 : (P4.1.length : Int) ≤ (P2.1.length : Int) + 2 := by omega
      have q5 : (P2.1.length : Int) ≤ 2 := by omega
      go_wp2_with fail
      refine (b1le_any k _ w9).mono ?_
      rintro e W12 ⟨rfl, k12⟩
      have K12 := hide k12
      clear k12
      have hps : (packS [k]).size = 4 := by rw [Lib.size_eq]; exact packL_length [k]
      have u1 : ¬ (9223372036854775807 < a4.size + (packS [k]).size) := by omega
      have u2 : ¬ (9223372036854775807 < (a4.size : Int) + ((packS [k]).size : Int)) := by omega
      have u3 : ¬ (9223372036854775807 < (a4 ++ packS [k]).size + (packS [k]).size) := by rw [ByteArray.size_append]; omega
      have u4 : ¬ (9223372036854775807 < a4.size + (packS [k]).size + (packS [k]).size) := by omega
      have u5 : ¬ (9223372036854775807 < ((a4 ++ packS [k]).size : Int) + ((packS [k]).size : Int)) := by rw [ByteArray.size_append]; omega
      clear hps
      go_wp2_with fail
      refine (b1le_any k _ w9).mono ?_
      rintro e W13 ⟨rfl, k13⟩
      have K13 := hide (K12.out.trans k13)
      clear k13 K12
      go_wp2_with fail
      have hzb := heap_alloc_new W13 (.cells #[.string ⟨#[]⟩, .string a3, .string a5, .string (a4 ++ packS [k] ++ packS [k]), .string ⟨#[]⟩, .int .u8 0, .int .u16 (bits .or .u16 (na6 : Int) 256)] 29)
      have kz : Kept [] w11 (W13.alloc (.cells #[.string ⟨#[]⟩, .string a3, .string a5, .string (a4 ++ packS [k] ++ packS [k]), .string ⟨#[]⟩, .int .u8 0, .int .u16 (bits .or .u16 (na6 : Int) 256)] 29)) := K13.out.alloc _
      generalize W13.alloc (.cells #[.string ⟨#[]⟩, .string a3, .string a5, .string (a4 ++ packS [k] ++ packS [k]), .string ⟨#[]⟩, .int .u8 0, .int .u16 (bits .or .u16 (na6 : Int) 256)] 29) = Z at *
      have t4 := HN.out.2.2.2
      generalize bits .or .u16 (na6 : Int) 256 = bz at *
      have heqW : ∀ W : World, (binOp .eql 29 (.agg #[.string ⟨#[]⟩, .string a3, .string a5, .string (a4 ++ packS [k] ++ packS [k]), .string ⟨#[]⟩, .int .u8 0, .int .u16 bz]) (.agg #[.string ⟨#[]⟩, .string a3, .string a5, .string (a4 ++ packS [k] ++ packS [k]), .string ⟨#[]⟩, .int .u8 0, .int .u16 bz])).run Try.prog W = .ok (.bool true) W := fun W => by
        have h0 := equal29 ⟨⟨#[]⟩, a3, a5, a4 ++ packS [k] ++ packS [k], ⟨#[]⟩, 0, bz⟩ ⟨⟨#[]⟩, a3, a5, a4 ++ packS [k] ++ packS [k], ⟨#[]⟩, 0, bz⟩ W
        rw [(Wt.eq_iff _ _).2 rfl] at h0
        simp only [Op.equal, Op.maxDepth] at h0
        rw [run_eql_struct]
        exact congrArg (fun r => r.andThen fun b w' => Result.ok (Value.bool b) w') h0
      have hgt : Try.prog.eqGuardType Try.prog.depth 29 = false := by kernel_rfl
      have x0' : Z.cell? ⟨W13.heap.size, 0, none⟩ = some (.string ⟨#[]⟩) := cell_get hzb rfl
      have x1' : Z.cell? ⟨W13.heap.size, 1, none⟩ = some (.string a3) := cell_get hzb rfl
      have x2' : Z.cell? ⟨W13.heap.size, 2, none⟩ = some (.string a5) := cell_get hzb rfl
      have x3' : Z.cell? ⟨W13.heap.size, 3, none⟩ = some (.string (a4 ++ packS [k] ++ packS [k])) := cell_get hzb rfl
      have x4' : Z.cell? ⟨W13.heap.size, 4, none⟩ = some (.string ⟨#[]⟩) := cell_get hzb rfl
      have x5' : Z.cell? ⟨W13.heap.size, 5, none⟩ = some (.int .u8 0) := cell_get hzb rfl
      have x6' : Z.cell? ⟨W13.heap.size, 6, none⟩ = some (.int .u16 bz) := cell_get hzb rfl
      have KZ := hide (And.intro kz (And.intro hzb t4))
      clear kz hzb t4 u1 u2 u3 u4 u5
      have hwu : IntKind.u32.wrap (P4.2 : Int) = (P4.2 : Int) := by
        have := IntKind.wrap_u32 (P4.2 : Int)
        rw [this]; omega
      have hc14 : Calls Try.prog 14 #[.pointer (some ⟨eB, 0, none⟩), .int .u32 (P4.2 : Int)] Z.drew (fun e w' => e = .returned (.agg #[.string ⟨#[]⟩, .string a3, .string a5, .string (a4 ++ packS [k] ++ packS [k]), .string ⟨#[]⟩, .int .u8 0, .int .u16 bz]) ∧ Kept [] Z.drew w') :=
        at_any w.heap.size eB mr mw (pairs z0 z1 j) [P1.2] rs rc P4.1 P4.2 ⟨⟨#[]⟩, a3, a5, a4 ++ packS [k] ++ packS [k], ⟨#[]⟩, 0, bz⟩ Z.drew (HN.out.1.kept KZ.out.1.drew).ex KZ.out.2.2
      have HC14 := hide hc14
      clear hc14
      go_region_with (first | (go_at_call 14; refine HC14.out.mono ?_; rintro e w14 ⟨rfl, k14⟩; have hz4 := k14.at KZ.out.2.1 (by simp); have y0' : w14.cell? ⟨W13.heap.size, 0, none⟩ = some (.string ⟨#[]⟩) := cell_get hz4 rfl; have y1' : w14.cell? ⟨W13.heap.size, 1, none⟩ = some (.string a3) := cell_get hz4 rfl; have y2' : w14.cell? ⟨W13.heap.size, 2, none⟩ = some (.string a5) := cell_get hz4 rfl; have y3' : w14.cell? ⟨W13.heap.size, 3, none⟩ = some (.string (a4 ++ packS [k] ++ packS [k])) := cell_get hz4 rfl; have y4' : w14.cell? ⟨W13.heap.size, 4, none⟩ = some (.string ⟨#[]⟩) := cell_get hz4 rfl; have y5' : w14.cell? ⟨W13.heap.size, 5, none⟩ = some (.int .u8 0) := cell_get hz4 rfl; have y6' : w14.cell? ⟨W13.heap.size, 6, none⟩ = some (.int .u16 bz) := cell_get hz4 rfl; have K14 := hide k14; clear k14 hz4))
      all_goals
        go_wp2
        go_ret
        exact ⟨rfl, (HN.out.2.2.1.trans (Fr.nil (KZ.out.1.drew.trans K14.out) HN.out.2.2.1.size)).below⟩

end Go.Proofs.Qxb6613471a
