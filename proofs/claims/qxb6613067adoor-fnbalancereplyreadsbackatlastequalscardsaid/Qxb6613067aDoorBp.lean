import Derived.Test.Qxb6613067aDoorBal
namespace Go.Proofs.Qxb6613067aDoor
open Go.RowKit

theorem Tab.on {w W : World} (h : Tab w.heap.size w) (hb : Below w.heap.size w W) : Tab W.heap.size W := fun w' hb' => h w' (hb.trans (hb'.mono hb.size))
theorem bel_at {W w' : World} (h : Below W.heap.size W w') {k : Nat} {o : Obj} (hk : W.heap[k]? = some o) : w'.heap[k]? = some o := by
  rw [h.block k (Array.getElem?_eq_some_iff.1 hk).1]; exact hk
theorem two_new (w : World) (o p : Obj) : ((w.alloc o).alloc p).heap[w.heap.size]? = some o ∧ ((w.alloc o).alloc p).heap[w.heap.size + 1]? = some p := by
  refine ⟨?_, ?_⟩
  · rw [Below.heap_alloc (w.alloc o) _ _ (by simp)]; exact heap_alloc_new w o
  · have := heap_alloc_new (w.alloc o) p
    simpa using this
theorem reply_size (br nm : ByteArray) (x : Int) : (reply br nm x).size = br.size + nm.size + 4 + (Lib.itoa x).length := by
  rw [Lib.size_eq]; simp [reply, replyL]; omega

theorem reply_data (br nm : ByteArray) (x : Int) : (reply br nm x).data.toList = (acctL br nm ++ [32, 61, 32]) ++ Lib.itoa x := by
  simp [reply, replyL, acctL]
theorem headL_length (br nm : ByteArray) : (acctL br nm ++ [32, 61, 32]).length = br.size + nm.size + 4 := by
  simp [acctL]; omega
theorem reply_head (br nm : ByteArray) (x : Int) : ((reply br nm x).extract 0 (br.size + nm.size + 4)).toList = acctL br nm ++ [32, 61, 32] := by
  rw [Lib.extract_toList, reply_data, List.drop_zero, Nat.sub_zero, List.take_left' (headL_length br nm)]
theorem reply_tail (br nm : ByteArray) (x : Int) : ((reply br nm x).extract (br.size + nm.size + 4) (reply br nm x).size).toList = Lib.itoa x := by
  rw [Lib.extract_toList, reply_data, List.drop_left' (headL_length br nm), reply_size]
  exact List.take_of_length_le (by omega)
theorem reply_inj (br nm : ByteArray) (x y : Int) (h : (reply br nm x).toList = (reply br nm y).toList) : x = y := by
  rw [Lib.toList_data, Lib.toList_data, reply_data, reply_data] at h
  exact itoa_inj (List.append_cancel_left h)

set_option maxRecDepth 100000 in
set_option maxHeartbeats 400000 in
theorem parts_out (b1 n1 b2 n2 : ByteArray) (x y : Int) (w : World) (h1 : b1.size ≤ maxLen) (h2 : n1.size ≤ maxLen) (h3 : b2.size ≤ maxLen) (h4 : n2.size ≤ maxLen) (h : 1048576 < b1.size + n1.size + b2.size + n2.size) :
    Calls Tryd.prog 4 #[.string b1, .string n1, .string b2, .string n2, .int .i64 x, .int .i64 y] w fun e w' => e = .returned (.bool true) ∧ w' = w := by
  unfold maxLen at h1 h2 h3 h4
  by_cases k1 : 1048576 < b1.size
  · go_enter Tryd.func4, Tryd.ntmps4
    go_wp2
    go_ret
    exact ⟨rfl, rfl⟩
  by_cases k2 : 1048576 < n1.size
  · go_enter Tryd.func4, Tryd.ntmps4
    go_wp2
    go_ret
    exact ⟨rfl, rfl⟩
  by_cases k3 : 1048576 < b1.size + n1.size
  · go_enter Tryd.func4, Tryd.ntmps4
    go_wp2
    go_ret
    exact ⟨rfl, rfl⟩
  by_cases k4 : 1048576 < b2.size
  · go_enter Tryd.func4, Tryd.ntmps4
    go_wp2
    go_ret
    exact ⟨rfl, rfl⟩
  by_cases k5 : 1048576 < b1.size + n1.size + b2.size
  · go_enter Tryd.func4, Tryd.ntmps4
    go_wp2
    go_ret
    exact ⟨rfl, rfl⟩
  by_cases k6 : 1048576 < n2.size
  · go_enter Tryd.func4, Tryd.ntmps4
    go_wp2
    go_ret
    exact ⟨rfl, rfl⟩
  go_enter Tryd.func4, Tryd.ntmps4
  go_wp2
  go_ret
  exact ⟨rfl, rfl⟩

set_option maxRecDepth 100000 in
set_option maxHeartbeats 1000000 in
theorem parts_ok (b1 n1 b2 n2 : ByteArray) (x y : Int) (w : World) (hs : b1.size + n1.size + b2.size + n2.size ≤ 1048576)
    (hx0 : -9223372036854775808 ≤ x) (hx1 : x ≤ 9223372036854775807) (hy0 : -9223372036854775808 ≤ y) (hy1 : y ≤ 9223372036854775807) (hT : Tab w.heap.size w) :
    Calls Tryd.prog 4 #[.string b1, .string n1, .string b2, .string n2, .int .i64 x, .int .i64 y] w fun e w' => e = .returned (.bool true) ∧ Below w.heap.size w w' := by
  have HT := bhide hT
  clear hT
  have q1 : b1.size ≤ 1048576 := by omega
  have q2 : n1.size ≤ 1048576 := by omega
  have q3 : b2.size ≤ 1048576 := by omega
  have q4 : n2.size ≤ 1048576 := by omega
  have q5 : b1.size + n1.size ≤ 1048576 := by omega
  have q6 : b1.size + n1.size + b2.size ≤ 1048576 := by omega
  go_enter Tryd.func4, Tryd.ntmps4
  go_wp2_with (first | (go_at_call 13; go_in))
  obtain ⟨N0, N1⟩ := two_new w (.cells #[.string b1, .string n1] 24) (.cells #[.string b2, .string n2] 24)
  have B0 : Below w.heap.size w ((w.alloc (.cells #[.string b1, .string n1] 24)).alloc (.cells #[.string b2, .string n2] 24)) := ((Below.refl _ _).alloc (Nat.le_refl _) _).alloc (by simp) _
  generalize (w.alloc (.cells #[.string b1, .string n1] 24)).alloc (.cells #[.string b2, .string n2] 24) = W at *
  have HTW := bhide (HT.out.on B0)
  refine (bal_any b1 n1 x W hx0 hx1 q5 HTW.out).mono ?_
  rintro e w1 ⟨rfl, l1⟩
  have M0 := bel_at l1 N0
  have M1 := bel_at l1 N1
  have HT1 := bhide (HTW.out.on l1)
  have L1 := B0.trans (l1.mono B0.size)
  clear B0 l1 N0 N1 HTW HT
  have c0 : w1.cell? ⟨w.heap.size, 0, none⟩ = some (.string b1) := by rw [Lib.cell_of_heap M0]; rfl
  have c1 : w1.cell? ⟨w.heap.size, 1, none⟩ = some (.string n1) := by rw [Lib.cell_of_heap M0]; rfl
  go_wp2_with fail
  refine (bal_any b1 n1 y w1 hy0 hy1 q5 HT1.out).mono ?_
  rintro e w2 ⟨rfl, l2⟩
  have P1 := bel_at l2 M1
  have HT2 := bhide (HT1.out.on l2)
  have L2 := L1.trans (l2.mono L1.size)
  clear L1 l2 M0 M1 HT1 c0 c1
  have c0 : w2.cell? ⟨w.heap.size + 1, 0, none⟩ = some (.string b2) := by rw [Lib.cell_of_heap P1]; rfl
  have c1 : w2.cell? ⟨w.heap.size + 1, 1, none⟩ = some (.string n2) := by rw [Lib.cell_of_heap P1]; rfl
  go_wp2_with fail
  refine (bal_any b2 n2 x w2 hx0 hx1 (by omega) HT2.out).mono ?_
  rintro e w3 ⟨rfl, l3⟩
  have L3 := L2.trans (l3.mono L2.size)
  clear L2 l3 P1 HT2 c0 c1
  have z1 := reply_size b1 n1 x
  have z2 := reply_size b1 n1 y
  have z3 := reply_size b2 n2 x
  have y1 := Lib.itoa_length_le x hx0 hx1
  have y2 := Lib.itoa_length_le y hy0 hy1
  have e1 : b1.size + n1.size + 4 ≤ (reply b1 n1 x).size := by omega
  have e2 : b1.size + n1.size + 4 ≤ (reply b1 n1 y).size := by omega
  have e3 : b2.size + n2.size + 4 ≤ (reply b2 n2 x).size := by omega
  have u1 : (reply b1 n1 x).size ≤ 1048601 := by omega
  have u2 : (reply b1 n1 y).size ≤ 1048601 := by omega
  have u3 : (reply b2 n2 x).size ≤ 1048601 := by omega
  have f1 : (((reply b1 n1 x).extract 0 (b1.size + n1.size + 4)).toList == ((reply b1 n1 y).extract 0 (b1.size + n1.size + 4)).toList) = true := by rw [reply_head, reply_head]; exact beq_self_eq_true _
  have f2 : (((reply b1 n1 x).extract (b1.size + n1.size + 4) (reply b1 n1 x).size).toList == ((reply b2 n2 x).extract (b2.size + n2.size + 4) (reply b2 n2 x).size).toList) = true := by rw [reply_tail, reply_tail]; exact beq_self_eq_true _
  have f4 : (((reply b1 n1 x).size : Int) - ((b1.size : Int) + (n1.size : Int) + 4) == ((Lib.itoa x).length : Int)) = true := beq_iff_eq.2 (by omega)
  clear z1 z2 z3
  go_wp2
  go_quiet (fail)
  go_wp2
  go_quiet (fail)
  by_cases hxy : x = y
  · subst hxy
    go_wp2_with (first | (go_at_call 14; refine (dlen_any x _ hx0 hx1).mono ?_; rintro e w4 ⟨rfl, rfl⟩))
    go_ret
    exact ⟨rfl, L3.trans ⟨rfl, rfl, rfl, Nat.le_refl _, fun _ _ => rfl⟩⟩
  · have f3 : ((reply b1 n1 x).toList == (reply b1 n1 y).toList) = false := beq_eq_false_iff_ne.2 (fun e => hxy (reply_inj b1 n1 x y e))
    have f5 : (x == y) = false := beq_eq_false_iff_ne.2 hxy
    go_wp2_with (first | (go_at_call 14; refine (dlen_any x _ hx0 hx1).mono ?_; rintro e w4 ⟨rfl, rfl⟩))
    go_ret
    exact ⟨rfl, L3.trans ⟨rfl, rfl, rfl, Nat.le_refl _, fun _ _ => rfl⟩⟩

end Go.Proofs.Qxb6613067aDoor
