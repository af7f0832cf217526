import Derived.Test.Qxb6613067aDoorLw
namespace Go.Proofs.Qxb6613067aDoor
open Go.RowKit

theorem lineOf_length (l : ByteArray) : (lineOf l).length = l.size + 1 := by simp [lineOf]
theorem lineOf_get (l : ByteArray) (k : Nat) (h : k < l.size) : (Lib.byteCells (lineOf l))[k]? = some (.int .u8 (l[k].toNat : Int)) := by
  have hl : k < l.data.toList.length := by rw [← Lib.size_eq]; exact h
  rw [bc_get, lineOf, List.getElem?_append_left hl, List.getElem?_eq_getElem hl]; rfl
theorem lineOf_end (l : ByteArray) : (Lib.byteCells (lineOf l))[l.size]? = some (.int .u8 10) := by
  rw [bc_get, lineOf, List.getElem?_append_right (by rw [← Lib.size_eq]; exact Nat.le_refl _), ← Lib.size_eq, Nat.sub_self]; rfl

set_option maxHeartbeats 400000 in
theorem bil_any (g : Nat) (line : ByteArray) (w : World) (hg : w.heap[g]? = some (.cells (Lib.byteCells (lineOf line)).toArray 5 (0, 0))) (hs : line.size ≤ 1048576) :
    Calls Tryd.prog 27 #[.slice (some ⟨g, 0, none⟩) (line.size + 1) (line.size + 1), .string line] w fun e w' => e = .returned (.bool true) ∧ w'.heap = w.heap ∧ Kept [] w w' := by
  have HG := hide hg
  clear hg
  have b1 : (((line.size : Int) + 1) != ((line.size : Int) + 1)) = false := by simp
  go_enter Tryd.func27, Tryd.ntmps27
  go_wp2
  go_loopw [5] (fun i w' => ∃ k : Nat, k ≤ line.size ∧ i = .int .i64 k ∧ Hid (w'.heap = w.heap) ∧ Kept [] w w') (fun i _ => line.size - (intOf i).toNat)
  case atStart => exact ⟨0, by omega, rfl, hide rfl, Kept.refl _ _⟩
  case round =>
    obtain ⟨k, hk, rfl, HW, hb⟩ := hrel
    by_cases hlt : k < line.size
    · have c1 : wr.cell? ⟨g, k, none⟩ = some (.int .u8 (line[k].toNat : Int)) := by
        rw [Lib.cell_of_heap (by rw [HW.out]; exact HG.out)]
        simpa using lineOf_get line k hlt
      have hk0 : (0 : Int) ≤ (k : Int) := by omega
      have hk1 : (k : Int) < (line.size : Int) := by omega
      have hk2 : (k : Int) < (line.size : Int) + 1 := by omega
      have hk3 : k < line.size + 1 := by omega
      go_wp2
      go_quiet (fail)
      go_wp2
      go_roundw
      case rel => exact ⟨k + 1, by omega, by go_num, hide HW.out, hb.drewN _⟩
      case measure => simp [intOf]; omega
    · have c1 : wr.cell? ⟨g, line.size, none⟩ = some (.int .u8 10) := by
        rw [Lib.cell_of_heap (by rw [HW.out]; exact HG.out)]
        simpa using lineOf_end line
      go_wp2
      go_ret
      exact ⟨rfl, HW.out, hb⟩

/-- What the two writes leave, as a string. -/
def outOf (line tail : ByteArray) : ByteArray := ⟨(lineOf line ++ lineOf tail).toArray⟩
theorem outOf_size (line tail : ByteArray) : (outOf line tail).size = line.size + tail.size + 2 := by
  rw [Lib.size_eq]; simp [outOf, lineOf_length]; omega
theorem outOf_first (line tail : ByteArray) : cut (outOf line tail) 0 (line.size + 1) = Lib.byteCells (lineOf line) := by
  simp only [cut, outOf, List.drop_zero]
  rw [List.take_left' (lineOf_length line)]
theorem outOf_second (line tail : ByteArray) : cut (outOf line tail) (line.size + 1) (tail.size + 1) = Lib.byteCells (lineOf tail) := by
  simp only [cut, outOf]
  rw [List.drop_left' (lineOf_length line), List.take_of_length_le (by rw [lineOf_length]; exact Nat.le_refl _)]

set_option maxRecDepth 100000 in
set_option maxHeartbeats 400000 in
theorem wb_out (line tail : ByteArray) (m : Int) (w : World) (hs1 : line.size ≤ maxLen) (hs2 : tail.size ≤ maxLen) (h : 1048576 < line.size + tail.size ∨ 65536 < m) :
    Calls Tryd.prog 7 #[.string line, .string tail, .int .i64 m] w fun e w' => e = .returned (.bool true) ∧ w' = w := by
  unfold maxLen at hs1 hs2
  by_cases h1 : 1048576 < line.size
  · go_enter Tryd.func7, Tryd.ntmps7
    go_wp2
    go_ret
    exact ⟨rfl, rfl⟩
  by_cases h2 : 1048576 < tail.size
  · go_enter Tryd.func7, Tryd.ntmps7
    go_wp2
    go_ret
    exact ⟨rfl, rfl⟩
  by_cases h3 : 1048576 < line.size + tail.size
  · go_enter Tryd.func7, Tryd.ntmps7
    go_wp2
    go_ret
    exact ⟨rfl, rfl⟩
  have h4 : 65536 < m := by omega
  go_enter Tryd.func7, Tryd.ntmps7
  go_wp2
  go_ret
  exact ⟨rfl, rfl⟩

set_option maxRecDepth 100000 in
set_option maxHeartbeats 1000000 in
theorem wb_ok (line tail : ByteArray) (m : Int) (w : World) (hs : line.size + tail.size ≤ 1048576) (hm0 : -9223372036854775808 ≤ m) (hm1 : m ≤ 65536) (ea ua : Addr) (h3 : 3 ≤ w.heap.size)
    (heof : w.cell? ⟨1, 0, none⟩ = some (.iface 104 (.pointer (some ea)))) (hueof : w.cell? ⟨2, 0, none⟩ = some (.iface 104 (.pointer (some ua)))) :
    Calls Tryd.prog 7 #[.string line, .string tail, .int .i64 m] w fun e w' => e = .returned (.bool true) ∧ Below w.heap.size w w' := by
  have HE := hide heof
  have HU := hide hueof
  clear heof hueof
  have hsn : ∀ (a : Option Addr) (n c n' c' : Nat) (w : World), (binOp .eql 42 (.slice a n c) (.slice none n' c')).run Tryd.prog w = .ok (.bool a.isNone) w := fun a n c n' c' w => Lib.run_eql_slice_nil w 42 5 a n c n' c' Tryd.underlying42
  have q1 : line.size ≤ 1048576 := by omega
  have q2 : tail.size ≤ 1048576 := by omega
  go_enter Tryd.func7, Tryd.ntmps7
  go_wp2_with (first | (go_at_call 23; go_in) | (go_at_call 24; go_in))
  refine (wl_any w.heap.size w.heap.size [] line _ (Lib.fresh_isBuffer 67 5 w) (by simp) (by simp; omega)).mono ?_
  rintro e w1 ⟨rfl, a1, b1⟩
  have A1 := hide a1
  clear a1
  have s1 : w.heap.size + 1 ≤ w1.heap.size := by simpa using b1.size
  have l1 := ((Below.refl w.heap.size w).alloc (Nat.le_refl _) _).trans b1
  clear b1
  go_wp2_with fail
  refine (wl_any w.heap.size w.heap.size _ tail _ A1.out (by omega) (by simp [lineOf_length]; omega)).mono ?_
  rintro e w2 ⟨rfl, a2, b2⟩
  have A2 := hide a2
  clear a2 A1
  have s2 := b2.size
  have l2 := l1.trans b2
  clear b2 l1
  go_wp2_with (first | (go_at_call 26; go_in))
  have HS : Calls Tryd.prog 35 #[.pointer (some ⟨w.heap.size, 0, none⟩)] w2 fun e w' => e = .returned (.string (outOf line tail)) ∧ Kept [] w2 w' := by
    have := A2.out
    rw [List.nil_append] at this
    refine (Tryd.Buffer_String w.heap.size w.heap.size (lineOf line ++ lineOf tail) w2 this).mono ?_
    rintro e w' ⟨rfl, n, rfl⟩
    exact ⟨rfl, (Kept.refl _ _).drewN _⟩
  have hos := outOf_size line tail
  have HO := hide hos
  clear hos
  refine HS.mono ?_
  rintro e w3 ⟨rfl, k3⟩
  clear HS A2
  have s3 := k3.size
  have l3 := l2.trans (k3.below (B := w.heap.size) (by omega) (by simp))
  clear l2 k3
  go_wp2_with fail
  refine (zz_lr (outOf line tail) m w3 (by rw [HO.out]; omega) hm0 hm1).mono ?_
  rintro e w4 ⟨kl, rfl, a4, k4⟩
  have A4 := hide a4
  clear a4
  have s4 := k4.size
  have l4 := l3.trans (k4.below (B := w.heap.size) (by omega) (by simp))
  clear l3 k4
  go_wp2_with fail
  rw [show ((line.size : Int) + 1) = ((line.size + 1 : Nat) : Int) from by omega]
  refine (lr_ok A4.out (line.size + 1) (by rw [HO.out]; omega)).mono ?_
  rintro e w5 ⟨rfl, a5, g5, o5⟩
  rw [outOf_first] at g5
  rw [Nat.zero_add] at a5
  have A5 := hide a5
  have G5 := hide g5
  have s5 := o5.size
  have l5 := l4.trans (o5.below (C := w.heap.size) (by omega) (by omega))
  clear a5 g5 A4 o5 l4
  go_wp2_with (first | (go_at_call 27; refine (bil_any w4.heap.size line _ G5.out q1).mono ?_; rintro e w6 ⟨rfl, -, k6⟩; have A6 := hide (A5.out.out (Out.of_kept (B := 0) (E := 0) k6 (by simp)) (by omega)); have s6 := k6.size; have l6 := l5.trans (k6.below (B := w.heap.size) (by omega) (by simp)); clear k6 A5 l5 G5))
  rw [show ((tail.size : Int) + 1) = ((tail.size + 1 : Nat) : Int) from by omega]
  refine (lr_ok A6.out (tail.size + 1) (by rw [HO.out]; omega)).mono ?_
  rintro e w7 ⟨rfl, a7, g7, o7⟩
  rw [outOf_second] at g7
  have A7 := hide a7
  have G7 := hide g7
  have s7 := o7.size
  have l7 := l6.trans (o7.below (C := w.heap.size) (by omega) (by omega))
  clear a7 g7 A6 o7 l6
  go_wp2_with (first | (go_at_call 27; refine (bil_any w6.heap.size tail _ G7.out q2).mono ?_; rintro e w8 ⟨rfl, -, k8⟩; have A8 := hide (A7.out.out (Out.of_kept (B := 0) (E := 0) k8 (by simp)) (by omega)); have s8 := k8.size; have l8 := l7.trans (k8.below (B := w.heap.size) (by omega) (by simp)); clear k8 A7 l7 G7))
  refine (lr_err A8.out 1 (by rw [HO.out]; omega) (by omega) (by omega) ea ua (below_cell l8 HE.out (by simp; omega)) (below_cell l8 HU.out (by simp; omega))).mono ?_
  rintro e w9 ⟨xa, rfl, -, o9⟩
  have l9 := l8.trans (o9.below (C := w.heap.size) (by omega) (by omega))
  clear A8 o9 l8
  go_wp2
  go_ret
  exact ⟨rfl, l9⟩

end Go.Proofs.Qxb6613067aDoor
