import Derived.Test.Qxb6613471aLw
import Derived.Test.Qxb6613471aLe
import Derived.Test.Qxb6613471aLp
import Derived.Test.Qxb6613471aSn
import Derived.Test.Qxb6613471aBk
import Derived.Test.Qxb6613471aNx
import Derived.Test.Qxb6613471aSb
import Derived.Test.Qxb6613471aRx
import Derived.Test.Qxb6613471aB1
import Derived.Deep.CutBlock
import Derived.Deep.DeepCutAuto
import Derived.Deep.LoopGhost
import Derived.Deep.OwnRows
import Derived.Test.Qxb6613471aZs
namespace Go.Proofs.Qxb6613471a
open Go.RowKit

theorem Ex.parted {B eB mr mw : Nat} {subs : List (Nat × Nat)} {runs : List Nat} {rs : Array MapEntry} {rc : Nat} {Ws : List Wt} {w : World} (h : Ex B eB mr mw subs runs rs rc Ws w) : ∃ sv rv, ExV B eB mr mw sv rv subs runs rs rc Ws w ∧ ∀ b, w.heap.size ≤ b → rv.ownBlock ≠ some b := by
  obtain ⟨sv, rv, hv⟩ := h.v
  refine ⟨sv, rv, hv, fun b hb e => ?_⟩
  obtain ⟨cs, wv, a1, a2, a3, a4, a5, a6, a7, a8, a9⟩ := hv
  have := (a8.lt b e).2
  omega

theorem neq_self (a : Wt) (W : World) : (binOp .neq 29 (.agg a.arr) (.agg a.arr)).run Try.prog W = .ok (.bool false) W := by
  have h0 := equal29 a a W
  rw [(Wt.eq_iff _ _).2 rfl] at h0
  simp only [Op.equal, Op.maxDepth] at h0
  rw [run_neq_struct]
  exact congrArg (fun r => r.andThen fun b w' => Result.ok (Value.bool (!b)) w') h0

theorem eql_two (a b : Wt) (t : Bool) (h : a.eq b = t) (W : World) : (binOp .eql 29 (.agg a.arr) (.agg b.arr)).run Try.prog W = .ok (.bool t) W := by
  have h0 := equal29 a b W
  rw [h] at h0
  simp only [Op.equal, Op.maxDepth] at h0
  rw [run_eql_struct]
  exact congrArg (fun r => r.andThen fun b w' => Result.ok (Value.bool b) w') h0

set_option maxHeartbeats 8000000 in
set_option maxRecDepth 100000 in
theorem spec_long (x0 x1 : Addr) (len cap0 cap1 : Nat) (z0 z1 : List Int) (a2 : Int) (a3 a4 a5 : ByteArray) (na6 : Nat) (a7 a8 : ByteArray) (a9 : Int) (k supi : Nat) (w : World)
    (c0 : ∀ i, i < z0.length → w.cell? (x0.add i) = some (.int .u32 (z0.getD i 0))) (c1 : ∀ i, i < z1.length → w.cell? (x1.add i) = some (.int .u32 (z1.getD i 0)))
    (l0 : len ≤ z0.length) (l1 : len ≤ z1.length) (f0 : ∀ n ∈ z0, (Lit.int .u32 n).wf = true) (f1 : ∀ n ∈ z1, (Lit.int .u32 n).wf = true)
    (w3 : a3.size ≤ maxLen) (w4 : a4.size ≤ maxLen) (w5 : a5.size ≤ maxLen) (w7 : a7.size ≤ maxLen) (w8 : a8.size ≤ maxLen) (w9 : k < 4294967296) (hlen : len ≤ maxLen) :
    Calls Try.prog 3 #[.slice (some x0) len cap0, .slice (some x1) len cap1, .int .i64 a2, .string a3, .string a4, .string a5, .int .u16 (na6 : Int), .string a7, .string a8, .int .u8 a9, .int .u32 (k : Int), .int .u32 (supi : Int)] w fun e w' => e = .returned (.bool true) ∧ Below w.heap.size w w' := by
  have hsz := sz5 (some x0) (some x1) len cap0 len cap1 a2 a3 a4 a5 na6 a7 a8 a9 k supi w hlen hlen w3 w4 w5 w7 w8
  have HSZ := hide hsz
  have hpos : ∀ j, j < len → 0 ≤ z0.getD j 0 ∧ z0.getD j 0 < 4294967296 ∧ 0 ≤ z1.getD j 0 ∧ z1.getD j 0 < 4294967296 := fun j hj => by
    have e0 : z0.getD j 0 ∈ z0 := by rw [List.getD_eq_getElem?_getD, List.getElem?_eq_getElem (by omega)]; exact List.getElem_mem _
    have e1 : z1.getD j 0 ∈ z1 := by rw [List.getD_eq_getElem?_getD, List.getElem?_eq_getElem (by omega)]; exact List.getElem_mem _
    have q0 := wf_u32 (f0 _ e0)
    have q1 := wf_u32 (f1 _ e1)
    exact ⟨q0.1, q0.2, q1.1, q1.2⟩
  have hq0 : ∀ j, j < len → w.cell? (x0.add j) = some (.int .u32 (((z0.getD j 0).toNat : Nat) : Int)) := fun j hj => by
    rw [c0 j (by omega), Int.toNat_of_nonneg (hpos j hj).1]
  have hq1 : ∀ j, j < len → w.cell? (x1.add j) = some (.int .u32 (((z1.getD j 0).toNat : Nat) : Int)) := fun j hj => by
    rw [c1 j (by omega), Int.toNat_of_nonneg (hpos j hj).2.2.1]
  have h32 : ∀ n, n ≤ len → ∀ q ∈ pairs z0 z1 n, q.1 < 4294967296 ∧ q.2 < 4294967296 := fun n hn q hq => by
    simp only [pairs, List.mem_map, List.mem_range] at hq
    obtain ⟨j, hj, rfl⟩ := hq
    have := hpos j (by omega)
    simp only
    omega
  have HQ0 := hide hq0
  have HQ1 := hide hq1
  have H32 := hide h32
  clear hsz c0 c1 f0 f1 w3 w4 w5 w7 w8 hpos hq0 hq1 h32
  go_enter Try.func3, Try.ntmps3
  go_upto_region 11 with (first | (go_at_call 5; refine HSZ.out.mono ?_; rintro e w2 ⟨⟨t, rfl⟩, hw2⟩; replace hw2 := hw2.symm; subst hw2; cases t))
  all_goals try (go_ret; exact ⟨rfl, Below.refl _ _⟩)
  rename_i g9 g8 g7 g6 g5 g4 g3 g2 g1 K0 HK0
  clear HSZ hlen
  obtain ⟨i, rfl⟩ : ∃ i : Nat, a2 = (i : Int) := ⟨a2.toNat, by omega⟩
  have hil : i < len := by omega
  have hlen : len ≤ 4096 := by omega
  have s3 : a3.size ≤ 131072 := by omega
  have s4 : a4.size ≤ 131072 := by omega
  have s7 : a7.size ≤ 131072 := by omega
  have s8 : a8.size ≤ 131072 := by omega
  clear g9 g8 g7 g6 g5 g4 g3 g2 g1
  go_wp2_with fail
  refine (newx_any w).mono ?_
  rintro e W1 ⟨eB, mr, mw, rfl, hx1, k1⟩
  have HX1 := hide hx1
  have HK1 := hide k1
  clear hx1 k1
  obtain ⟨oW, hoW⟩ : ∃ oW : Wt, oW = ⟨⟨#[]⟩, a7, ⟨#[]⟩, a8, ⟨#[]⟩, 0, 0⟩ := ⟨_, rfl⟩
  obtain ⟨rW, hrW⟩ : ∃ rW : Wt, rW = ⟨⟨#[]⟩, a3, a5, a4, ⟨#[]⟩, 0, (na6 : Int)⟩ := ⟨_, rfl⟩
  go_upto_region 14 with fail
  have hbo : ((W1.alloc (.cells #[.string ⟨#[]⟩, .string a7, .string ⟨#[]⟩, .string a8, .string ⟨#[]⟩, .int .u8 0, .int .u16 0] 29)).alloc (.cells #[.string ⟨#[]⟩, .string a3, .string a5, .string a4, .string ⟨#[]⟩, .int .u8 0, .int .u16 (na6 : Int)] 29)).heap[W1.heap.size]? = some (.cells #[.string oW.iss, .string oW.comp, .string oW.ue, .string oW.sn, .string oW.fl, .int .u8 oW.ans, .int .u16 oW.brk] 29 (0, 0)) := by
    rw [hoW]; exact (Below.heap_alloc _ _ _ (by simp)).trans (heap_alloc_new W1 _)
  have hbr : ((W1.alloc (.cells #[.string ⟨#[]⟩, .string a7, .string ⟨#[]⟩, .string a8, .string ⟨#[]⟩, .int .u8 0, .int .u16 0] 29)).alloc (.cells #[.string ⟨#[]⟩, .string a3, .string a5, .string a4, .string ⟨#[]⟩, .int .u8 0, .int .u16 (na6 : Int)] 29)).heap[W1.heap.size + 1]? = some (.cells #[.string rW.iss, .string rW.comp, .string rW.ue, .string rW.sn, .string rW.fl, .int .u8 rW.ans, .int .u16 rW.brk] 29 (0, 0)) := by
    rw [hrW]
    have := heap_alloc_new (W1.alloc (.cells #[.string ⟨#[]⟩, .string a7, .string ⟨#[]⟩, .string a8, .string ⟨#[]⟩, .int .u8 0, .int .u16 0] 29)) (.cells #[.string ⟨#[]⟩, .string a3, .string a5, .string a4, .string ⟨#[]⟩, .int .u8 0, .int .u16 (na6 : Int)] 29)
    simpa using this
  have hkz : Kept [] w ((W1.alloc (.cells #[.string ⟨#[]⟩, .string a7, .string ⟨#[]⟩, .string a8, .string ⟨#[]⟩, .int .u8 0, .int .u16 0] 29)).alloc (.cells #[.string ⟨#[]⟩, .string a3, .string a5, .string a4, .string ⟨#[]⟩, .int .u8 0, .int .u16 (na6 : Int)] 29)) := (HK1.out.alloc _).alloc _
  have hxz := HX1.out.fr (Fr.nil (B := 0) (T := []) (M := []) (((Kept.refl [] W1).alloc (.cells #[.string ⟨#[]⟩, .string a7, .string ⟨#[]⟩, .string a8, .string ⟨#[]⟩, .int .u8 0, .int .u16 0] 29)).alloc (.cells #[.string ⟨#[]⟩, .string a3, .string a5, .string a4, .string ⟨#[]⟩, .int .u8 0, .int .u16 (na6 : Int)] 29)) (Nat.zero_le _)) (by simp) (by simp) (by simp) (by simp) (by simp) (by simp)
  generalize (W1.alloc (.cells #[.string ⟨#[]⟩, .string a7, .string ⟨#[]⟩, .string a8, .string ⟨#[]⟩, .int .u8 0, .int .u16 0] 29)).alloc (.cells #[.string ⟨#[]⟩, .string a3, .string a5, .string a4, .string ⟨#[]⟩, .int .u8 0, .int .u16 (na6 : Int)] 29) = Z0 at *
  generalize hbrn : W1.heap.size + 1 = br at *
  generalize hbon : W1.heap.size = bo at *
  have HBB := hide (And.intro hbo hbr)
  have HX1 := hide hxz
  have HF1 := hide (Fr.nil (B := w.heap.size) (T := [94, 97, 102, 107]) (M := [mr, mw]) hkz (Nat.le_refl _))
  have HOW := hide hoW
  have HRW := hide hrW
  clear hbo hbr hkz hxz hbrn hbon hoW hrW HK1
  have x0' := boxed_all oW HBB.out.1
  obtain ⟨-, p0, p1, p2, p3, p4, p5, p6⟩ := x0'
  go_wp2_with fail
  refine (wid_any w.heap.size eB mr mw [] [] #[] 0 [] oW _ HX1.out (by simp)).mono ?_
  rintro e W2 ⟨rfl, hx2, fr2⟩
  clear p0 p1 p2 p3 p4 p5 p6
  have HX2 := hide hx2
  have HF2 := hide (HF1.out.trans (fr2.mono (T' := [94, 97, 102, 107]) (M' := [mr, mw]) (by simp) (by simp)))
  have HB2 := hide (And.intro (fr2.tag _ _ _ _ HBB.out.1 (by decide)) (fr2.tag _ _ _ _ HBB.out.2 (by decide)))
  clear hx2 fr2 HX1 HF1 HBB
  rw [addW_one] at HX2 ⊢
  obtain ⟨-, p0, p1, p2, p3, p4, p5, p6⟩ := boxed_all rW HB2.out.2
  go_wp2_with fail
  refine (wid_any w.heap.size eB mr mw [] [] #[] 0 [oW] rW _ HX2.out (by simp)).mono ?_
  rintro e W3 ⟨rfl, hx3, fr3⟩
  clear p0 p1 p2 p3 p4 p5 p6
  have HX3 := hide hx3
  have HF3 := hide (HF2.out.trans (fr3.mono (T' := [94, 97, 102, 107]) (M' := [mr, mw]) (by simp) (by simp)))
  have HB3 := hide (And.intro (fr3.tag _ _ _ _ HB2.out.1 (by decide)) (fr3.tag _ _ _ _ HB2.out.2 (by decide)))
  clear hx3 fr3 HX2 HF2 HB2
  have htwo := addW_two oW rW
  have n2 := addW_len [oW] rW
  have t2 := addW_get [oW] rW
  have o2 := addW_old [oW] rW (j := 0) (u := oW) rfl
  have u2 := addW_out oW rW
  generalize addW [oW] rW = P2 at *
  have HT2 := hide (And.intro t2 (And.intro o2 (And.intro htwo u2)))
  clear t2 o2 htwo u2
  go_wp2_with fail
  refine (zrid_any w.heap.size eB mr mw [] P2.1 0 _ HX3.out).mono ?_
  rintro e W4 ⟨rfl, ⟨rs, rc, hx4⟩, fr4⟩
  have HX4 := hide hx4
  have HF4 := hide (HF3.out.trans (fr4.mono (T' := [94, 97, 102, 107]) (M' := [mr, mw]) (by simp) (by simp)))
  have HB4 := hide (And.intro (fr4.tag _ _ _ _ HB3.out.1 (by decide)) (fr4.tag _ _ _ _ HB3.out.2 (by decide)))
  clear hx4 fr4 HX3 HF3 HB3
  go_wp2_with fail
  go_loopg [30] len (fun g c W => ∃ j, j ≤ len ∧ g = len - j ∧ c = .int .i64 (j : Int) ∧ Hid (Ex w.heap.size eB mr mw (pairs z0 z1 j) [0] rs rc P2.1 W ∧ Fr w.heap.size [94, 97, 102, 107] [mr, mw] w W ∧ W.heap[bo]? = some (.cells #[.string oW.iss, .string oW.comp, .string oW.ue, .string oW.sn, .string oW.fl, .int .u8 oW.ans, .int .u16 oW.brk] 29 (0, 0)) ∧ W.heap[br]? = some (.cells #[.string rW.iss, .string rW.comp, .string rW.ue, .string rW.sn, .string rW.fl, .int .u8 rW.ans, .int .u16 rW.brk] 29 (0, 0))))
  case atStart => exact ⟨0, by omega, rfl, rfl, hide ⟨HX4.out, HF4.out, HB4.out⟩⟩
  case round =>
    obtain ⟨j, hj, rfl, rfl, HQ⟩ := hrel
    by_cases hlt : j < len
    · have hk0 : (0 : Int) ≤ (j : Int) := by omega
      have hk1 : (j : Int) < (len : Int) := by omega
      obtain ⟨u, hu⟩ : ∃ u : Nat, (z0.getD j 0).toNat = u := ⟨_, rfl⟩
      obtain ⟨v, hv⟩ : ∃ v : Nat, (z1.getD j 0).toNat = v := ⟨_, rfl⟩
      have q0 := HQ0.out j hlt
      have q1 := HQ1.out j hlt
      have hsuc := pairs_succ z0 z1 j
      rw [hu] at q0 hsuc
      rw [hv] at q1 hsuc
      have hall : ∀ W, Fr w.heap.size [94, 97, 102, 107] [mr, mw] w W → W.cell? (x0.add j) = some (.int .u32 (u : Int)) ∧ W.cell? (x1.add j) = some (.int .u32 (v : Int)) := fun W f =>
        ⟨by rw [f.below.cell (cell_lt q0)]; exact q0, by rw [f.below.cell (cell_lt q1)]; exact q1⟩
      have HALL := hide hall
      have HSUC := hide hsuc
      have e0 := (HALL.out _ HQ.out.2.1).1
      have e1 := (HALL.out _ HQ.out.2.1).2
      clear hall hsuc hu hv q0 q1
      go_wp2_with fail
      go_region_with (first | (go_at_call 9; refine (addsub_any w.heap.size eB mr mw (pairs z0 z1 j) [0] rs rc P2.1 (u, v) _ (by exact HQ.out.1.fr (Fr.nil (B := 0) (T := []) (M := []) (Kept.refl _ _).drew (Nat.zero_le _)) (by simp) (by simp) (by simp) (by simp) (by simp) (by simp)) (by rw [pairs_length]; omega)).mono ?_; rintro e w5 ⟨rfl, hx5, fr5⟩; have FX := hide (And.intro hx5 (And.intro (HQ.out.2.1.drew.trans (fr5.mono (T' := [94, 97, 102, 107]) (M' := [mr, mw]) (by simp) (by simp))) (And.intro (fr5.tag _ _ _ _ (by exact HQ.out.2.2.1) (by decide)) (fr5.tag _ _ _ _ (by exact HQ.out.2.2.2) (by decide))))); clear hx5 fr5))
      all_goals
        go_wp2
        go_roundg (len - (j + 1))
        case measure => omega
        case rel => exact ⟨j + 1, by omega, rfl, by go_num, hide ⟨by rw [HSUC.out]; exact FX.out.1, FX.out.2⟩⟩
    · obtain rfl : j = len := by omega
      have hiz : ¬ ((j : Int) < (j : Int)) := by omega
      clear HX4 HF4 HB4
      have hl2 : P2.1.length ≤ 2 := by simp at n2; omega
      clear n2 l0 l1
      have hmk : ∀ W : World, (Instr.makeSlice 33 (.int .i64 (4 * (j : Int))) (.int .i64 (4 * (j : Int)))).run Try.prog W = .ok (.slice (some ⟨W.heap.size, 0, none⟩) (4 * j) (4 * j)) (W.alloc (.cells (madeCells #[.int .u8 0] (4 * j)) 5)) := fun W => by
        have := run_make_row' (P := Try.prog) 33 5 (.int .u8 0) 1 Try.underlying33 info5z rfl .i64 .i64 (4 * j) (by omega) (by omega) W
        rw [show ((4 * j : Nat) : Int) = 4 * (j : Int) from by omega] at this
        exact this
      have hw4 : IntKind.i64.wrap (4 * (j : Int)) = 4 * (j : Int) := by rw [IntKind.wrap_i64]; omega
      go_wp2_with fail
      clear hmk hw4
      have hst : (wr.alloc (.cells (madeCells #[.int .u8 0] (4 * j)) 5)).heap[wr.heap.size]? = some (.cells (Array.replicate (4 * (pairs z0 z1 j).length) (.int .u8 0)) 5 (0, 0)) := by
        rw [pairs_length, ← made_rep]; exact heap_alloc_new _ _
      have hxV : Ex w.heap.size eB mr mw (pairs z0 z1 j) [0] rs rc P2.1 (wr.alloc (.cells (madeCells #[.int .u8 0] (4 * j)) 5)) := HQ.out.1.fr (Fr.nil (B := 0) (T := []) (M := []) ((Kept.refl _ _).alloc _) (Nat.zero_le _)) (by simp) (by simp) (by simp) (by simp) (by simp) (by simp)
      have hfV : Fr w.heap.size [94, 97, 102, 107] [mr, mw] w (wr.alloc (.cells (madeCells #[.int .u8 0] (4 * j)) 5)) := HQ.out.2.1.trans (Fr.nil ((Kept.refl _ _).alloc _) HQ.out.2.1.size)
      have hbV := And.intro (((Kept.refl [] wr).alloc (.cells (madeCells #[.int .u8 0] (4 * j)) 5)).at HQ.out.2.2.1 (by simp)) (((Kept.refl [] wr).alloc (.cells (madeCells #[.int .u8 0] (4 * j)) 5)).at HQ.out.2.2.2 (by simp))
      generalize wr.alloc (.cells (madeCells #[.int .u8 0] (4 * j)) 5) = V at *
      obtain ⟨sv, rv, hvV, hap⟩ := hxV.parted
      have HSV := hide (And.intro hst (And.intro hvV (And.intro hap hfV)))
      clear hst hxV hvV hap hfV
      refine (newrun_any P2.2 V).mono ?_
      rintro e W6 ⟨rfl, hr6, k6⟩
      have hv6 := HSV.out.2.1.kept k6
      have hst6 := k6.at HSV.out.1 (by simp)
      have hf6 : Fr w.heap.size [94, 97, 102, 107] [mr, mw] w W6 := HSV.out.2.2.2.trans (Fr.nil k6 HSV.out.2.2.2.size)
      have HB6 := hide (And.intro (k6.at hbV.1 (by simp)) (k6.at hbV.2 (by simp)))
      clear hbV
      have H6 := hide (And.intro hv6 (And.intro hst6 (And.intro hf6 hr6)))
      clear hv6 hst6 hf6 hr6 k6
      go_wp2_with fail
      refine (count_any w.heap.size eB mr mw (pairs z0 z1 j) [0] rs rc P2.1 W6 H6.out.1.ex).mono ?_
      rintro e w7 ⟨rfl, rfl⟩
      by_cases ho : a9 = 1
      · as_aux_lemma =>
          subst ho
          have hz1 := zseaf_any w.heap.size eB mr mw sv rv (pairs z0 z1 j) 0 rs rc P2.1 oW rW P2.2 V.heap.size wr.heap.size i k supi _ w7 H6.out.1 HT2.out.2.1 HT2.out.1 H6.out.2.2.2 HSV.out.2.2.2.size (HSV.out.2.2.1 _ (Nat.le_refl _)) H6.out.2.1 (pairs_get z0 z1 j i hil) (by rw [pairs_length]; omega) (by omega)
            (by rw [HOW.out]; show a7.size ≤ _; omega) (by rw [HOW.out]; show a8.size ≤ _; omega) (by rw [HRW.out]; show a3.size ≤ _; omega) (by rw [HRW.out]; show a4.size ≤ _; omega) w9 (H32.out j (Nat.le_refl _))
          rw [pairs_length] at hz1
          have HZ1 := hide hz1
          clear hz1
          go_wp2_with fail
          refine HZ1.out.mono ?_
          rintro e W8 ⟨rfl, H8⟩
          obtain ⟨v, hv, hx8, hr8, fr8⟩ := H8.out
          clear HZ1 H8
          obtain ⟨sn, hsn⟩ : ∃ sn : Nat, (z1.getD i 0).toNat = sn := ⟨_, rfl⟩
          obtain ⟨ui, hui⟩ : ∃ ui : Nat, (z0.getD i 0).toNat = ui := ⟨_, rfl⟩
          have hsn32 : sn < 4294967296 := by
            have := (H32.out j (Nat.le_refl _) _ (List.mem_of_getElem? (pairs_get z0 z1 j i hil))).2
            rw [← hsn]; exact this
          simp only [hsn] at hv
          have hgi : ((pairs z0 z1 j).getD i (0, 0)).1 = ui := by rw [List.getD_eq_getElem?_getD, pairs_get z0 z1 j i hil, ← hui]; rfl
          rw [soB_agB _ _ _ _ _ _ _ _ hil, spB_spent i rW oW k j hil] at hv
          obtain ⟨so, hso⟩ : ∃ so : Nat → Bool, so = fun n => soB (pairs z0 z1 j) i rW oW k supi sn n := ⟨_, rfl⟩
          have hso0 : so 0 = (decide (ui = supi) && holdsT a3 [k, sn]) := by
            rw [hso]; simp only [soB, hgi]; rw [HRW.out]; simp
          have hsoS : ∀ n, n < j → so (n + 1) = (so n || ((decide (n ≠ i) && decide ((z0.getD n 0).toNat = supi)) && holdsT a7 [k, sn])) := fun n hn => by
            rw [hso]; simp only [soB_succ]
            rw [show ((pairs z0 z1 j).getD n (0, 0)).1 = (z0.getD n 0).toNat from by rw [List.getD_eq_getElem?_getD, pairs_get z0 z1 j n hn]; rfl, show oW.comp = a7 from by rw [HOW.out]]
          rw [show soB (pairs z0 z1 j) i rW oW k supi sn j = so j from by rw [hso]] at hv
          rw [show rW.sn = a4 from by rw [HRW.out], show oW.sn = a8 from by rw [HOW.out]] at hv
          have HSO := hide (And.intro hso0 hsoS)
          clear hso0 hsoS hso hgi
          have hne : v ≠ rW := by rw [hv]; exact outW_ne _ _ _
          have hu2 := HT2.out.2.2.2 v hne
          have t3 := addW_get P2.1 v
          have o3 := addW_old P2.1 v HT2.out.2.1
          have r3 := addW_old P2.1 v HT2.out.1
          have n3 := (addW_len P2.1 v).2
          have lt3 := addW_lt P2.1 v
          generalize addW P2.1 v = P4 at *
          have hb8 := And.intro (fr8.tag _ _ _ _ HB6.out.1 (by decide)) (fr8.tag _ _ _ _ HB6.out.2 (by decide))
          have hf8 : Fr w.heap.size [94, 97, 102, 107] [mr, mw] w W8 := H6.out.2.2.1.trans (fr8.mono (by simp) (by simp))
          have HZ := hide (And.intro hx8 (And.intro hb8 (And.intro hr8 hf8)))
          have HV := hide (And.intro hv (And.intro t3 (And.intro o3 (And.intro r3 hu2))))
          clear hx8 hb8 hr8 hf8 fr8 hv hne t3 o3 r3 hu2 H6 HB6 HSV HT2
          go_wp2_with fail
          refine (count_any w.heap.size eB mr mw (pairs z0 z1 j) [0] rs rc P4.1 W8 HZ.out.1.ex).mono ?_
          rintro e w9' ⟨rfl, rfl⟩
          go_wp2_with fail
          refine (runwatch_any V.heap.size P4.2 w9' (cell_get HZ.out.2.2.1 rfl)).mono ?_
          rintro e Z ⟨rfl, rfl⟩
          have q1 : (P4.2 : Int) < (P4.1.length : Int) := by omega
          have q2 : (0 : Int) ≤ (P4.2 : Int) := by omega
          have q3 : (P4.2 : Int) ≤ 10 := by omega
          have hca : ∀ W, Kept [] Z W → Calls Try.prog 14 #[.pointer (some ⟨eB, 0, none⟩), .int .u32 0] W (fun e w' => e = .returned (.agg #[.string oW.iss, .string oW.comp, .string oW.ue, .string oW.sn, .string oW.fl, .int .u8 oW.ans, .int .u16 oW.brk]) ∧ Kept [] W w') := fun W kW =>
            at_any w.heap.size eB mr mw (pairs z0 z1 j) [0] rs rc P4.1 0 oW W (HZ.out.1.kept kW).ex HV.out.2.2.1
          have hcb : ∀ W, Kept [] Z W → Calls Try.prog 14 #[.pointer (some ⟨eB, 0, none⟩), .int .u32 (P2.2 : Int)] W (fun e w' => e = .returned (.agg #[.string rW.iss, .string rW.comp, .string rW.ue, .string rW.sn, .string rW.fl, .int .u8 rW.ans, .int .u16 rW.brk]) ∧ Kept [] W w') := fun W kW =>
            at_any w.heap.size eB mr mw (pairs z0 z1 j) [0] rs rc P4.1 P2.2 rW W (HZ.out.1.kept kW).ex HV.out.2.2.2.1
          have hcv : ∀ W, Kept [] Z W → Calls Try.prog 14 #[.pointer (some ⟨eB, 0, none⟩), .int .u32 (P4.2 : Int)] W (fun e w' => e = .returned (.agg #[.string v.iss, .string v.comp, .string v.ue, .string v.sn, .string v.fl, .int .u8 v.ans, .int .u16 v.brk]) ∧ Kept [] W w') := fun W kW =>
            at_any w.heap.size eB mr mw (pairs z0 z1 j) [0] rs rc P4.1 P4.2 v W (HZ.out.1.kept kW).ex HV.out.2.1
          have HCA := hide hca
          have HCB := hide hcb
          have HCV := hide hcv
          clear hca hcb hcv
          have hall : ∀ W, Kept [] Z W → (W.cell? ⟨bo, 0, none⟩ = some (.string oW.iss) ∧ W.cell? ⟨bo, 1, none⟩ = some (.string oW.comp) ∧ W.cell? ⟨bo, 2, none⟩ = some (.string oW.ue) ∧ W.cell? ⟨bo, 3, none⟩ = some (.string oW.sn) ∧ W.cell? ⟨bo, 4, none⟩ = some (.string oW.fl) ∧ W.cell? ⟨bo, 5, none⟩ = some (.int .u8 oW.ans) ∧ W.cell? ⟨bo, 6, none⟩ = some (.int .u16 oW.brk) ∧ W.cell? ⟨br, 0, none⟩ = some (.string rW.iss) ∧ W.cell? ⟨br, 1, none⟩ = some (.string rW.comp) ∧ W.cell? ⟨br, 2, none⟩ = some (.string rW.ue) ∧ W.cell? ⟨br, 3, none⟩ = some (.string rW.sn) ∧ W.cell? ⟨br, 4, none⟩ = some (.string rW.fl) ∧ W.cell? ⟨br, 5, none⟩ = some (.int .u8 rW.ans) ∧ W.cell? ⟨br, 6, none⟩ = some (.int .u16 rW.brk)) := fun W kW => by
            obtain ⟨-, o0, o1, o2, o3, o4, o5, o6⟩ := boxed_all oW (kW.at HZ.out.2.1.1 (by simp))
            obtain ⟨-, r0, r1, r2, r3, r4, r5, r6⟩ := boxed_all rW (kW.at HZ.out.2.1.2 (by simp))
            exact ⟨o0, o1, o2, o3, o4, o5, o6, r0, r1, r2, r3, r4, r5, r6⟩
          have HALL := hide hall
          clear hall
          have hgt : Try.prog.eqGuardType Try.prog.depth 29 = false := by kernel_rfl
          go_upto_region 29 with fail
          go_cut [171] (fun c W => c = .bool false ∧ Hid (Kept [] Z W))
          case first =>
            as_aux_lemma =>
              have heqo : ∀ W : World, (binOp .neq 29 (.agg #[.string oW.iss, .string oW.comp, .string oW.ue, .string oW.sn, .string oW.fl, .int .u8 oW.ans, .int .u16 oW.brk]) (.agg #[.string oW.iss, .string oW.comp, .string oW.ue, .string oW.sn, .string oW.fl, .int .u8 oW.ans, .int .u16 oW.brk])).run Try.prog W = .ok (.bool false) W := fun W => neq_self oW W
              have heqr : ∀ W : World, (binOp .neq 29 (.agg #[.string rW.iss, .string rW.comp, .string rW.ue, .string rW.sn, .string rW.fl, .int .u8 rW.ans, .int .u16 rW.brk]) (.agg #[.string rW.iss, .string rW.comp, .string rW.ue, .string rW.sn, .string rW.fl, .int .u8 rW.ans, .int .u16 rW.brk])).run Try.prog W = .ok (.bool false) W := fun W => neq_self rW W
              go_region_held3 (fun W => W.cell? ⟨bo, 0, none⟩ = some (.string oW.iss) ∧ W.cell? ⟨bo, 1, none⟩ = some (.string oW.comp) ∧ W.cell? ⟨bo, 2, none⟩ = some (.string oW.ue) ∧ W.cell? ⟨bo, 3, none⟩ = some (.string oW.sn) ∧ W.cell? ⟨bo, 4, none⟩ = some (.string oW.fl) ∧ W.cell? ⟨bo, 5, none⟩ = some (.int .u8 oW.ans) ∧ W.cell? ⟨bo, 6, none⟩ = some (.int .u16 oW.brk) ∧ W.cell? ⟨br, 0, none⟩ = some (.string rW.iss) ∧ W.cell? ⟨br, 1, none⟩ = some (.string rW.comp) ∧ W.cell? ⟨br, 2, none⟩ = some (.string rW.ue) ∧ W.cell? ⟨br, 3, none⟩ = some (.string rW.sn) ∧ W.cell? ⟨br, 4, none⟩ = some (.string rW.fl) ∧ W.cell? ⟨br, 5, none⟩ = some (.int .u8 rW.ans) ∧ W.cell? ⟨br, 6, none⟩ = some (.int .u16 rW.brk))
                (first | exact HALL.out _ (Kept.refl _ _).drew | exact HALL.out _ KA.out | exact HALL.out _ KB.out)
                (first
                  | (go_at_call_of 14 (Value.int IntKind.u32 (P2.2 : Int)); refine (HCB.out _ KA.out).mono ?_; rintro e wb ⟨rfl, kb⟩; have KB := hide (KA.out.trans kb); clear kb)
                  | (go_at_call 14; refine (HCA.out _ (Kept.refl _ _).drew).mono ?_; rintro e wa ⟨rfl, ka⟩; have KA := hide ((Kept.refl [] Z).drew.trans ka); clear ka))
              all_goals (go_wp2_with fail; go_meet; exact ⟨rfl, KB⟩)
          case rest =>
            as_aux_lemma =>
              obtain ⟨rfl, HKZ⟩ := hcut
              have hcI : ∀ W, Kept [] Z W → W.cell? (x0.add i) = some (.int .u32 (ui : Int)) ∧ W.cell? (x1.add i) = some (.int .u32 (sn : Int)) := fun W kW => by
                have f := HZ.out.2.2.2.trans (Fr.nil kW HZ.out.2.2.2.size)
                have q0 := HQ0.out i hil
                have q1 := HQ1.out i hil
                rw [hui] at q0
                rw [hsn] at q1
                exact ⟨by rw [f.below.cell (cell_lt q0)]; exact q0, by rw [f.below.cell (cell_lt q1)]; exact q1⟩
              have HCI := hide hcI
              clear hcI hui hsn
              have hk0 : (0 : Int) ≤ (i : Int) := by omega
              have hk1 : (i : Int) < (j : Int) := by omega
              go_upto_region 33 with fail
              go_cut [36] (fun c W => c = .bool (so 0) ∧ Hid (Kept [] Z W))
              case first =>
                as_aux_lemma =>
                  have e0 := (HCI.out _ HKZ.out).1
                  have e1 := (HCI.out _ HKZ.out).2
                  by_cases hus : ui = supi
                  · have hub : ((ui : Int) == (supi : Int)) = true := by simp [hus]
                    have hs0 : so 0 = holdsT a3 [k, sn] := by rw [HSO.out.1]; simp [hus]
                    have HS0 := hide hs0
                    clear hs0
                    go_wp2_with fail
                    refine (haspair_any a3 k sn _ (by omega) w9 hsn32).mono ?_
                    rintro e W10 ⟨rfl, c10, rfl⟩
                    go_wp2_with fail
                    go_meet
                    exact ⟨by rw [HS0.out], hide (HKZ.out.drewN _)⟩
                  · have hub : ((ui : Int) == (supi : Int)) = false := by simp; omega
                    have hs0 : so 0 = false := by rw [HSO.out.1]; simp [hus]
                    have HS0 := hide hs0
                    clear hs0
                    go_wp2_with fail
                    go_meet
                    exact ⟨by rw [HS0.out], HKZ⟩
              case rest =>
                as_aux_lemma =>
                  obtain ⟨rfl, HK0⟩ := hcut
                  clear HKZ
                  go_wp2_with fail
                  go_loopg [36, 37] j (fun g c d W => ∃ n, n ≤ j ∧ g = j - n ∧ d = .int .i64 (n : Int) ∧ c = .bool (so n) ∧ Hid (Kept [] Z W))
                  case atStart => exact ⟨0, by omega, rfl, rfl, rfl, HK0⟩
                  case round =>
                    obtain ⟨n, hn, rfl, rfl, rfl, HKN⟩ := hrel
                    by_cases hlt2 : n < j
                    · have hm0 : (0 : Int) ≤ (n : Int) := by omega
                      have hm1 : (n : Int) < (j : Int) := by omega
                      obtain ⟨un, hun⟩ : ∃ un : Nat, (z0.getD n 0).toNat = un := ⟨_, rfl⟩
                      obtain ⟨bn, hbn⟩ : ∃ bn : Bool, bn = ((decide (n ≠ i) && decide (un = supi)) && holdsT a7 [k, sn]) := ⟨_, rfl⟩
                      have hsS := HSO.out.2 n hlt2
                      have q0 := HQ0.out n hlt2
                      rw [hun] at q0 hsS
                      rw [← hbn] at hsS
                      have HSS := hide hsS
                      have hcn : wr.cell? (x0.add n) = some (.int .u32 (un : Int)) := by
                        have f := HZ.out.2.2.2.trans (Fr.nil HKN.out HZ.out.2.2.2.size)
                        rw [f.below.cell (cell_lt q0)]; exact q0
                      have hc1 := (HCI.out _ HKN.out).2
                      have HBN := hide hbn
                      clear hsS hun q0 hbn
                      go_upto_region 37 with fail
                      go_cut [223] from 198 to 223 (fun c W => c = .bool bn ∧ Hid (Kept [] Z W))
                      case first =>
                        as_aux_lemma =>
                          by_cases hni : n = i
                          · have hb1 : ((n : Int) != (i : Int)) = false := by simp [hni]
                            have hbf : bn = false := by rw [HBN.out]; simp [hni]
                            have HBF := hide hbf
                            clear hbf
                            go_wp2_with fail
                            go_meet
                            exact ⟨by rw [HBF.out], HKN⟩
                          · have hb1 : ((n : Int) != (i : Int)) = true := by simp; omega
                            by_cases hus : un = supi
                            · have hub : ((un : Int) == (supi : Int)) = true := by simp [hus]
                              have hbf : bn = holdsT a7 [k, sn] := by rw [HBN.out]; simp [hni, hus]
                              have HBF := hide hbf
                              clear hbf
                              go_wp2_with fail
                              refine (haspair_any a7 k sn _ (by omega) w9 hsn32).mono ?_
                              rintro e W10 ⟨rfl, c10, rfl⟩
                              go_wp2_with fail
                              go_meet
                              exact ⟨by rw [HBF.out], hide (HKN.out.drewN _)⟩
                            · have hub : ((un : Int) == (supi : Int)) = false := by simp; omega
                              have hbf : bn = false := by rw [HBN.out]; simp [hus]
                              have HBF := hide hbf
                              clear hbf
                              go_wp2_with fail
                              go_meet
                              exact ⟨by rw [HBF.out], HKN⟩
                      case rest =>
                        as_aux_lemma =>
                          obtain ⟨rfl, HKM⟩ := hcut
                          clear hcn hc1 HBN
                          cases bn
                          · go_wp2_with fail
                            go_roundg (j - (n + 1))
                            case measure => omega
                            case rel => exact ⟨n + 1, by omega, rfl, by go_num, by rw [HSS.out]; simp, HKM⟩
                          · go_wp2_with fail
                            go_roundg (j - (n + 1))
                            case measure => omega
                            case rel => exact ⟨n + 1, by omega, rfl, by go_num, by rw [HSS.out]; simp, HKM⟩
                    · as_aux_lemma =>
                        obtain rfl : n = j := by omega
                        have hiz2 : ¬ ((n : Int) < (n : Int)) := by omega
                        generalize hbS : so n = bS
                        have HBS := hide hbS
                        clear hbS
                        obtain ⟨sp, hsp⟩ : ∃ sp : Bool, sp = (holdsT a4 [k] || (decide (1 < n) && holdsT a8 [k])) := ⟨_, rfl⟩
                        have HSP := hide hsp
                        clear hsp
                        go_upto_region 39 with fail
                        go_cut [38] (fun c W => c = .bool sp ∧ Hid (Kept [] Z W))
                        case first =>
                          as_aux_lemma =>
                            go_wp2_with fail
                            refine (haskey_any a4 k _ (by omega) w9).mono ?_
                            rintro e W21 ⟨rfl, c21, rfl⟩
                            cases hb1 : holdsT a4 [k]
                            · by_cases h1n : 1 < n
                              · have h1i : (1 : Int) < (n : Int) := by omega
                                have hspf : sp = holdsT a8 [k] := by rw [HSP.out, hb1]; simp [h1n]
                                have HSF := hide hspf
                                clear hspf
                                go_wp2_with fail
                                refine (haskey_any a8 k _ (by omega) w9).mono ?_
                                rintro e W22 ⟨rfl, c22, rfl⟩
                                go_wp2_with fail
                                go_meet
                                exact ⟨by rw [HSF.out], hide (HKN.out.drewN _)⟩
                              · have h1i : ¬ ((1 : Int) < (n : Int)) := by omega
                                have hspf : sp = false := by rw [HSP.out, hb1]; simp [h1n]
                                have HSF := hide hspf
                                clear hspf
                                go_wp2_with fail
                                go_meet
                                exact ⟨by rw [HSF.out], hide (HKN.out.drewN _)⟩
                            · have hspf : sp = true := by rw [HSP.out, hb1]; rfl
                              have HSF := hide hspf
                              clear hspf
                              go_wp2_with fail
                              go_meet
                              exact ⟨by rw [HSF.out], hide (HKN.out.drewN _)⟩
                        case rest =>
                          as_aux_lemma =>
                            obtain ⟨rfl, HK2⟩ := hcut
                            clear HKN HK0 HCI
                            generalize wc = W20 at *
                            obtain ⟨-, p0, p1, p2, p3, p4, p5, p6⟩ := boxed_all rW (HK2.out.at HZ.out.2.1.2 (by simp))
                            go_upto_region 41 with fail
                            clear p0 p1 p2 p3 p4 p5 p6
                            have hnb := heap_alloc_new W20 (.cells #[.string rW.iss, .string rW.comp, .string rW.ue, .string rW.sn, .string rW.fl, .int .u8 rW.ans, .int .u16 rW.brk] 29)
                            have kz : Kept [] Z (W20.alloc (.cells #[.string rW.iss, .string rW.comp, .string rW.ue, .string rW.sn, .string rW.fl, .int .u8 rW.ans, .int .u16 rW.brk] 29)) := HK2.out.alloc _
                            have hwz : Z.heap.size ≤ W20.heap.size := HK2.out.size
                            generalize W20.alloc (.cells #[.string rW.iss, .string rW.comp, .string rW.ue, .string rW.sn, .string rW.fl, .int .u8 rW.ans, .int .u16 rW.brk] 29) = W21 at *
                            generalize W20.heap.size = wb at *
                            have H21 := hide (And.intro hnb kz)
                            have HWZ := hide hwz
                            clear hnb kz hwz HK2
                            have hrs : rW.sn = a4 := by rw [HRW.out]
                            have hrb : rW.brk = (na6 : Int) := by rw [HRW.out]
                            have HRS := hide (And.intro hrs hrb)
                            clear hrs hrb
                            go_wp2_with fail
                            refine (b1le_any k _ w9).mono ?_
                            rintro e W22 ⟨rfl, k22⟩
                            have hnb2 := k22.at H21.out.1 (by simp)
                            have x3 : W22.cell? ⟨wb, 3, none⟩ = some (.string rW.sn) := cell_get hnb2 rfl
                            have f3 : W22.frozen? ⟨wb, 3, none⟩ = false := Lib.frozen_of_heap hnb2 3
                            have hbl : wb < W22.heap.size := lt_of_heap hnb2
                            have H22 := hide (And.intro hnb2 (H21.out.2.trans k22))
                            clear hnb2 k22 H21
                            have hps : (packS [k]).size = 4 := by rw [Lib.size_eq]; exact packL_length [k]
                            have hsz : ¬ (9223372036854775807 < a4.size + (packS [k]).size) := by omega
                            have hsz2 : ¬ (9223372036854775807 < (a4.size : Int) + ((packS [k]).size : Int)) := by omega
                            clear hps
                            go_upto_region 42 with fail
                            have hnb3 : (W22.setCell ⟨wb, 3, none⟩ (.string (a4 ++ packS [k]))).heap[wb]? = some (.cells #[.string rW.iss, .string rW.comp, .string rW.ue, .string (rW.sn ++ packS [k]), .string rW.fl, .int .u8 rW.ans, .int .u16 rW.brk] 29 (0, 0)) := by
                              rw [HRS.out.1]; exact Lib.heap_setCell_same (i := 3) H22.out.1 _
                            have kz3 : Kept [] Z (W22.setCell ⟨wb, 3, none⟩ (.string (a4 ++ packS [k]))) := H22.out.2.setNew HWZ.out _
                            clear x3 f3 hbl hsz hsz2
                            generalize W22.setCell ⟨wb, 3, none⟩ (.string (a4 ++ packS [k])) = W23 at *
                            have H23 := hide (And.intro hnb3 kz3)
                            clear hnb3 kz3 H22
                            obtain ⟨Y, hY⟩ : ∃ Y : Bool, Y = (!bS || sp) := ⟨_, rfl⟩
                            have hvY : v = outW rW k (!Y) := by rw [HV.out.1, hY, HSP.out, HBS.out]; simp
                            have HY := hide (And.intro hY hvY)
                            clear hY hvY
                            go_cut [247] (fun c W => c = .bool Y ∧ W = W23)
                            case first =>
                              as_aux_lemma =>
                                cases bS
                                · have hYt : Y = true := by rw [HY.out.1]; rfl
                                  have HYT := hide hYt
                                  clear hYt
                                  go_wp2_with fail
                                  go_meet
                                  exact ⟨by rw [HYT.out], rfl⟩
                                · have hYt : Y = sp := by rw [HY.out.1]; rfl
                                  have HYT := hide hYt
                                  clear hYt
                                  go_wp2_with fail
                                  go_meet
                                  exact ⟨by rw [HYT.out], rfl⟩
                            case rest =>
                              as_aux_lemma =>
                                obtain ⟨rfl, hwc⟩ := hcut
                                subst hwc
                                go_upto_if 247 with fail
                                go_cut [39] (fun o W => o = .pointer (some ⟨wb, 0, none⟩) ∧ Hid (W.heap[wb]? = some (.cells #[.string v.iss, .string v.comp, .string v.ue, .string v.sn, .string v.fl, .int .u8 v.ans, .int .u16 v.brk] 29 (0, 0)) ∧ Kept [] Z W))
                                case first =>
                                  as_aux_lemma =>
                                    cases Y with
                                    | true =>
                                      have x6 := cell_get H23.out.1 (o := 6) rfl
                                      have f6 := Lib.frozen_of_heap H23.out.1 6
                                      have hbl := lt_of_heap H23.out.1
                                      go_wp2_with fail
                                      go_meet
                                      exact ⟨rfl, hide ⟨by rw [HY.out.2, ← HRS.out.2]; exact Lib.heap_setCell_same (i := 6) H23.out.1 _, H23.out.2.setNew HWZ.out _⟩⟩
                                    | false =>
                                      go_wp2_with fail
                                      go_meet
                                      exact ⟨rfl, hide ⟨by rw [HY.out.2]; exact H23.out.1, H23.out.2⟩⟩
                                case rest =>
                                  as_aux_lemma =>
                                    obtain ⟨rfl, H24⟩ := hcut
                                    clear H23 HY HSP
                                    generalize wc = W24 at *
                                    clear HBS HRS HWZ HSO
                                    obtain ⟨-, x0', x1', x2', x3', x4', x5', x6'⟩ := boxed_all v H24.out.1
                                    have hwu : IntKind.u32.wrap (P4.2 : Int) = (P4.2 : Int) := by rw [IntKind.wrap_u32]; omega
                                    have heqv : ∀ W : World, (binOp .neq 29 (.agg #[.string v.iss, .string v.comp, .string v.ue, .string v.sn, .string v.fl, .int .u8 v.ans, .int .u16 v.brk]) (.agg #[.string v.iss, .string v.comp, .string v.ue, .string v.sn, .string v.fl, .int .u8 v.ans, .int .u16 v.brk])).run Try.prog W = .ok (.bool false) W := fun W => neq_self v W
                                    have HC14 := hide (HCV.out W24.drew H24.out.2.drew)
                                    go_upto_region 44 with fail
                                    go_cut [256] (fun c W => c = .bool false ∧ Hid (Kept [] W24 W))
                                    case first =>
                                      as_aux_lemma =>
                                        go_region_with (first | (go_at_call 14; refine HC14.out.mono ?_; rintro e w14 ⟨rfl, k14⟩; obtain ⟨-, y0', y1', y2', y3', y4', y5', y6'⟩ := boxed_all v (k14.at (by exact H24.out.1) (by simp)); have K14 := hide k14; clear k14))
                                        all_goals (go_wp2_with fail; go_meet; exact ⟨rfl, hide ((Kept.refl _ _).drew.trans K14.out)⟩)
                                    case rest =>
                                      as_aux_lemma =>
                                        obtain ⟨rfl, HK5⟩ := hcut
                                        clear x0' x1' x2' x3' x4' x5' x6' heqv HC14 HCV
                                        generalize wc = W25 at *
                                        have HB25 := hide (Fr.below (HZ.out.2.2.2.trans (Fr.nil (H24.out.2.trans HK5.out) HZ.out.2.2.2.size)))
                                        obtain ⟨-, s0', s1', s2', s3', s4', s5', s6'⟩ := boxed_all v (HK5.out.at H24.out.1 (by simp))
                                        obtain ⟨o0, o1, o2, o3, o4, o5, o6, -⟩ := HALL.out _ (H24.out.2.trans HK5.out)
                                        by_cases hvo : v = oW
                                        · have heq : ∀ W : World, (binOp .eql 29 (.agg #[.string v.iss, .string v.comp, .string v.ue, .string v.sn, .string v.fl, .int .u8 v.ans, .int .u16 v.brk]) (.agg #[.string oW.iss, .string oW.comp, .string oW.ue, .string oW.sn, .string oW.fl, .int .u8 oW.ans, .int .u16 oW.brk])).run Try.prog W = .ok (.bool true) W := fun W => eql_two v oW true ((Wt.eq_iff _ _).2 hvo) W
                                          have hP4 := HV.out.2.2.2.2.1 hvo
                                          have g1 : ((P4.2 : Int) == 0) = true := by rw [hP4]; rfl
                                          have g2 : ((P4.1.length : Int) == (P2.1.length : Int)) = true := by rw [hP4]; simp
                                          clear hP4 hvo HV HALL HK5 H24 HZ
                                          go_wp2
                                          go_ret
                                          exact ⟨rfl, HB25.out⟩
                                        · have heq : ∀ W : World, (binOp .eql 29 (.agg #[.string v.iss, .string v.comp, .string v.ue, .string v.sn, .string v.fl, .int .u8 v.ans, .int .u16 v.brk]) (.agg #[.string oW.iss, .string oW.comp, .string oW.ue, .string oW.sn, .string oW.fl, .int .u8 oW.ans, .int .u16 oW.brk])).run Try.prog W = .ok (.bool false) W := fun W => eql_two v oW false (by rw [Bool.eq_false_iff]; exact fun h => hvo ((Wt.eq_iff _ _).1 h)) W
                                          have hP4 := HV.out.2.2.2.2.2 hvo
                                          have g0 : (P4.2 : Int) = (P2.1.length : Int) := by rw [hP4]
                                          have g1 : ((P4.2 : Int) == (P2.1.length : Int)) = true := by rw [g0]; simp
                                          have g3 : (P4.1.length : Int) = (P2.1.length : Int) + 1 := by rw [hP4]; simp
                                          have g2 : ((P4.1.length : Int) == (P2.1.length : Int) + 1) = true := by rw [g3]; simp
                                          have g4 : IntKind.i64.wrap ((P2.1.length : Int) + 1) = (P2.1.length : Int) + 1 := by rw [IntKind.wrap_i64]; omega
                                          clear hP4 hvo HV HALL HK5 H24 HZ g0 g3
                                          go_wp2
                                          go_ret
                                          exact ⟨rfl, HB25.out⟩
      · as_aux_lemma =>
          have hob : (a9 != 1) = true := by simp [ho]
          go_wp2_with fail
          refine (zseaf_no _ _ _ _ a9 k supi w7 ho).mono ?_
          rintro e W8 ⟨rfl, k8⟩
          have hvz := H6.out.1.kept k8
          have hbz := And.intro (k8.at HB6.out.1 (by simp)) (k8.at HB6.out.2 (by simp))
          have hrz := k8.at H6.out.2.2.2 (by simp)
          have hfz : Fr w.heap.size [94, 97, 102, 107] [mr, mw] w W8 := H6.out.2.2.1.trans (Fr.nil k8 H6.out.2.2.1.size)
          have HZ := hide (And.intro hvz (And.intro hbz (And.intro hrz hfz)))
          clear hvz hbz hrz hfz k8 H6 HB6
          go_wp2_with fail
          refine (count_any w.heap.size eB mr mw (pairs z0 z1 j) [0] rs rc P2.1 W8 HZ.out.1.ex).mono ?_
          rintro e w9' ⟨rfl, rfl⟩
          go_wp2_with fail
          refine (runwatch_any V.heap.size P2.2 w9' (cell_get HZ.out.2.2.1 rfl)).mono ?_
          rintro e Z ⟨rfl, rfl⟩
          have lt2 : P2.2 < P2.1.length := (List.getElem?_eq_some_iff.1 HT2.out.1).1
          have q1 : (P2.2 : Int) < (P2.1.length : Int) := by omega
          have q2 : (0 : Int) ≤ (P2.2 : Int) := by omega
          have q3 : (P2.2 : Int) ≤ 10 := by omega
          have hca : ∀ W, Kept [] Z W → Calls Try.prog 14 #[.pointer (some ⟨eB, 0, none⟩), .int .u32 0] W (fun e w' => e = .returned (.agg #[.string oW.iss, .string oW.comp, .string oW.ue, .string oW.sn, .string oW.fl, .int .u8 oW.ans, .int .u16 oW.brk]) ∧ Kept [] W w') := fun W kW =>
            at_any w.heap.size eB mr mw (pairs z0 z1 j) [0] rs rc P2.1 0 oW W (HZ.out.1.kept kW).ex HT2.out.2.1
          have hcb : ∀ W, Kept [] Z W → Calls Try.prog 14 #[.pointer (some ⟨eB, 0, none⟩), .int .u32 (P2.2 : Int)] W (fun e w' => e = .returned (.agg #[.string rW.iss, .string rW.comp, .string rW.ue, .string rW.sn, .string rW.fl, .int .u8 rW.ans, .int .u16 rW.brk]) ∧ Kept [] W w') := fun W kW =>
            at_any w.heap.size eB mr mw (pairs z0 z1 j) [0] rs rc P2.1 P2.2 rW W (HZ.out.1.kept kW).ex HT2.out.1
          have heqo : ∀ W : World, (binOp .neq 29 (.agg #[.string oW.iss, .string oW.comp, .string oW.ue, .string oW.sn, .string oW.fl, .int .u8 oW.ans, .int .u16 oW.brk]) (.agg #[.string oW.iss, .string oW.comp, .string oW.ue, .string oW.sn, .string oW.fl, .int .u8 oW.ans, .int .u16 oW.brk])).run Try.prog W = .ok (.bool false) W := fun W => neq_self oW W
          have heqr : ∀ W : World, (binOp .neq 29 (.agg #[.string rW.iss, .string rW.comp, .string rW.ue, .string rW.sn, .string rW.fl, .int .u8 rW.ans, .int .u16 rW.brk]) (.agg #[.string rW.iss, .string rW.comp, .string rW.ue, .string rW.sn, .string rW.fl, .int .u8 rW.ans, .int .u16 rW.brk])).run Try.prog W = .ok (.bool false) W := fun W => neq_self rW W
          have hgt : Try.prog.eqGuardType Try.prog.depth 29 = false := by kernel_rfl
          have HCA := hide hca
          have HCB := hide hcb
          clear hca hcb
          go_upto_region 29 with fail
          go_cut [171] (fun c W => c = .bool false ∧ Hid (Kept [] Z W))
          case first =>
            as_aux_lemma =>
              have hall : ∀ W, Kept [] Z W → (W.cell? ⟨bo, 0, none⟩ = some (.string oW.iss) ∧ W.cell? ⟨bo, 1, none⟩ = some (.string oW.comp) ∧ W.cell? ⟨bo, 2, none⟩ = some (.string oW.ue) ∧ W.cell? ⟨bo, 3, none⟩ = some (.string oW.sn) ∧ W.cell? ⟨bo, 4, none⟩ = some (.string oW.fl) ∧ W.cell? ⟨bo, 5, none⟩ = some (.int .u8 oW.ans) ∧ W.cell? ⟨bo, 6, none⟩ = some (.int .u16 oW.brk) ∧ W.cell? ⟨br, 0, none⟩ = some (.string rW.iss) ∧ W.cell? ⟨br, 1, none⟩ = some (.string rW.comp) ∧ W.cell? ⟨br, 2, none⟩ = some (.string rW.ue) ∧ W.cell? ⟨br, 3, none⟩ = some (.string rW.sn) ∧ W.cell? ⟨br, 4, none⟩ = some (.string rW.fl) ∧ W.cell? ⟨br, 5, none⟩ = some (.int .u8 rW.ans) ∧ W.cell? ⟨br, 6, none⟩ = some (.int .u16 rW.brk)) := fun W kW => by
                obtain ⟨-, o0, o1, o2, o3, o4, o5, o6⟩ := boxed_all oW (kW.at HZ.out.2.1.1 (by simp))
                obtain ⟨-, r0, r1, r2, r3, r4, r5, r6⟩ := boxed_all rW (kW.at HZ.out.2.1.2 (by simp))
                exact ⟨o0, o1, o2, o3, o4, o5, o6, r0, r1, r2, r3, r4, r5, r6⟩
              have HALL := hide hall
              clear hall
              go_region_held3 (fun W => W.cell? ⟨bo, 0, none⟩ = some (.string oW.iss) ∧ W.cell? ⟨bo, 1, none⟩ = some (.string oW.comp) ∧ W.cell? ⟨bo, 2, none⟩ = some (.string oW.ue) ∧ W.cell? ⟨bo, 3, none⟩ = some (.string oW.sn) ∧ W.cell? ⟨bo, 4, none⟩ = some (.string oW.fl) ∧ W.cell? ⟨bo, 5, none⟩ = some (.int .u8 oW.ans) ∧ W.cell? ⟨bo, 6, none⟩ = some (.int .u16 oW.brk) ∧ W.cell? ⟨br, 0, none⟩ = some (.string rW.iss) ∧ W.cell? ⟨br, 1, none⟩ = some (.string rW.comp) ∧ W.cell? ⟨br, 2, none⟩ = some (.string rW.ue) ∧ W.cell? ⟨br, 3, none⟩ = some (.string rW.sn) ∧ W.cell? ⟨br, 4, none⟩ = some (.string rW.fl) ∧ W.cell? ⟨br, 5, none⟩ = some (.int .u8 rW.ans) ∧ W.cell? ⟨br, 6, none⟩ = some (.int .u16 rW.brk))
                (first | exact HALL.out _ (Kept.refl _ _).drew | exact HALL.out _ KA.out | exact HALL.out _ KB.out)
                (first
                  | (go_at_call_of 14 (Value.int IntKind.u32 (P2.2 : Int)); refine (HCB.out _ KA.out).mono ?_; rintro e wb ⟨rfl, kb⟩; have KB := hide (KA.out.trans kb); clear kb)
                  | (go_at_call 14; refine (HCA.out _ (Kept.refl _ _).drew).mono ?_; rintro e wa ⟨rfl, ka⟩; have KA := hide ((Kept.refl [] Z).drew.trans ka); clear ka))
              all_goals (go_wp2_with fail; go_meet; exact ⟨rfl, KB⟩)
          case rest =>
            as_aux_lemma =>
              obtain ⟨rfl, HKZ⟩ := hcut
              go_wp2
              go_ret
              exact ⟨rfl, (HZ.out.2.2.2.trans (Fr.nil HKZ.out HZ.out.2.2.2.size)).below⟩

end Go.Proofs.Qxb6613471a
