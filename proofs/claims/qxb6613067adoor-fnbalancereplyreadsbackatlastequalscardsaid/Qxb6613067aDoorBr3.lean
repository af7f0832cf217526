import Derived.Test.Qxb6613067aDoorBq
namespace Go.Proofs.Qxb6613067aDoor
open Go.RowKit

set_option maxRecDepth 100000 in
set_option maxHeartbeats 400000 in
theorem back_out (br nm : ByteArray) (x : Int) (w : World) (h1 : br.size ≤ maxLen) (h2 : nm.size ≤ maxLen) (h : 1048576 < br.size + nm.size) :
    Calls Tryd.prog 3 #[.string br, .string nm, .int .i64 x] w fun e w' => e = .returned (.bool true) ∧ w' = w := by
  unfold maxLen at h1 h2
  by_cases k1 : 1048576 < br.size
  · go_enter Tryd.func3, Tryd.ntmps3
    go_wp2
    go_ret
    exact ⟨rfl, rfl⟩
  by_cases k2 : 1048576 < nm.size
  · go_enter Tryd.func3, Tryd.ntmps3
    go_wp2
    go_ret
    exact ⟨rfl, rfl⟩
  go_enter Tryd.func3, Tryd.ntmps3
  go_wp2
  go_ret
  exact ⟨rfl, rfl⟩

theorem num_minus (x : Int) (h : x < 0) : ((num x).toList == ((⟨#[45]⟩ : ByteArray) ++ num (-x)).toList) = true := by
  rw [Lib.toList_data, Lib.toList_data, beq_iff_eq]
  simp only [ByteArray.data_append, Array.toList_append, num_data]
  rw [itoa_minus h, itoa_pos (by omega), show (-x).toNat = x.natAbs from by omega]
  rfl

set_option maxRecDepth 100000 in
set_option maxHeartbeats 1000000 in
theorem back_ok (br nm : ByteArray) (x : Int) (w : World) (hs : br.size + nm.size ≤ 1048576) (hx0 : -9223372036854775808 ≤ x) (hx1 : x ≤ 9223372036854775807) (hT : Tab w.heap.size w) :
    Calls Tryd.prog 3 #[.string br, .string nm, .int .i64 x] w fun e w' => e = .returned (.bool true) ∧ Below w.heap.size w w' := by
  have HT := bhide hT
  clear hT
  have q1 : br.size ≤ 1048576 := by omega
  have q2 : nm.size ≤ 1048576 := by omega
  go_enter Tryd.func3, Tryd.ntmps3
  go_wp2_with (first | (go_at_call 8; go_in))
  have N0 := heap_alloc_new w (.cells #[.string br, .string nm] 24)
  have B0 : Below w.heap.size w (w.alloc (.cells #[.string br, .string nm] 24)) := (Below.refl _ _).alloc (Nat.le_refl _) _
  generalize w.alloc (.cells #[.string br, .string nm] 24) = W at *
  have HTW := bhide (HT.out.on B0)
  refine (bal_any br nm x W hx0 hx1 hs HTW.out).mono ?_
  rintro e w1 ⟨rfl, l1⟩
  have M0 := bel_at l1 N0
  have HT1 := bhide (HTW.out.on l1)
  have L1 := B0.trans (l1.mono B0.size)
  clear B0 l1 N0 HTW HT
  go_wp2_with fail
  refine (split_any br nm x w1 hs hx0 hx1).mono ?_
  rintro e w2 ⟨rfl, l2⟩
  have M1 := bel_at l2 M0
  have HT2 := bhide (HT1.out.on l2)
  have L2 := L1.trans (l2.mono L1.size)
  clear L1 l2 M0 HT1
  have c0 : w2.cell? ⟨w.heap.size, 0, none⟩ = some (.string br) := by rw [Lib.cell_of_heap M1]; rfl
  have c1 : w2.cell? ⟨w.heap.size, 1, none⟩ = some (.string nm) := by rw [Lib.cell_of_heap M1]; rfl
  go_wp2_with (first | (go_at_call 11; refine (acct_any br nm _ hs).mono ?_; rintro e w3 ⟨rfl, l3⟩; have M2 := bel_at l3 M1; have HT3 := bhide (HT2.out.on l3); have L3 := L2.trans (l3.mono L2.size); clear L2 l3 M1 HT2 c0 c1))
  refine (parse_any x w3 hx0 hx1).mono ?_
  rintro e w3' ⟨rfl, rfl⟩
  have c0 : w3'.cell? ⟨w.heap.size, 0, none⟩ = some (.string br) := by rw [Lib.cell_of_heap M2]; rfl
  have c1 : w3'.cell? ⟨w.heap.size, 1, none⟩ = some (.string nm) := by rw [Lib.cell_of_heap M2]; rfl
  by_cases hmin : x = -9223372036854775808
  · have hm : (x == -9223372036854775808) = true := beq_iff_eq.2 hmin
    clear hmin
    go_wp2
    go_ret
    exact ⟨rfl, L3⟩
  · have hm : (x == -9223372036854775808) = false := beq_eq_false_iff_ne.2 hmin
    have hx2 : -9223372036854775807 ≤ x := by omega
    clear hmin
    go_wp2_with fail
    refine (bal_any br nm (-x) w3' (by omega) (by omega) hs HT3.out).mono ?_
    rintro e w4 ⟨rfl, l4⟩
    have L4 := L3.trans (l4.mono L3.size)
    clear L3 l4 M2 HT3 c0 c1
    go_wp2_with fail
    refine (split_any br nm (-x) w4 hs (by omega) (by omega)).mono ?_
    rintro e w5 ⟨rfl, l5⟩
    have L5 := L4.trans (l5.mono L4.size)
    clear L4 l5
    go_wp2_with fail
    refine (parse_any (-x) w5 (by omega) (by omega)).mono ?_
    rintro e w6 ⟨rfl, rfl⟩
    have n1 : (num x).size ≤ 21 := by rw [num_size]; exact Lib.itoa_length_le x hx0 hx1
    have n2 : (num (-x)).size ≤ 21 := by rw [num_size]; exact Lib.itoa_length_le (-x) (by omega) (by omega)
    by_cases hp : 0 < x
    · have hz := num_minus (-x) (by omega)
      rw [Int.neg_neg] at hz
      go_wp2
      go_ret
      exact ⟨rfl, L5⟩
    · by_cases hq : x < 0
      · have hz := num_minus x hq
        go_wp2
        go_ret
        exact ⟨rfl, L5⟩
      · have hz : ((num (-x)).toList == (num x).toList) = true := by
          rw [show x = 0 from by omega]; exact beq_self_eq_true _
        go_wp2
        go_ret
        exact ⟨rfl, L5⟩

end Go.Proofs.Qxb6613067aDoor
