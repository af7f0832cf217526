import Derived.Test.Qxb6613067aDoorLr
import Derived.Lib.SliceRun
namespace Go.Proofs.Qxb6613067aDoor
open Go.RowKit

set_option maxRecDepth 100000 in
set_option maxHeartbeats 1000000 in
theorem blocks_ok (s : ByteArray) (m1 m2 : Int) (n : Nat) (w : World) (hs : s.size ≤ 1048576) (hm10 : -9223372036854775808 ≤ m1) (hm1 : m1 ≤ 65536) (hm20 : -9223372036854775808 ≤ m2) (hm2 : m2 ≤ 65536)
    (hn : n ≤ 65536) (hns : n ≤ s.size) :
    Calls Tryd.prog 6 #[.string s, .int .i64 m1, .int .i64 m2, .int .i64 n] w fun e w' => e = .returned (.bool true) ∧ Below w.heap.size w w' := by
  have b1 : decide ((1048576 : Int) < (s.size : Int)) = false := by simp; omega
  have b2 : decide ((65536 : Int) < m1) = false := by simp; omega
  have b3 : decide ((65536 : Int) < m2) = false := by simp; omega
  have b4 : decide ((n : Int) < 0) = false := by simp
  have b5 : decide ((65536 : Int) < (n : Int)) = false := by simp; omega
  have b6 : decide ((s.size : Int) < (n : Int)) = false := by simp; omega
  have hsn : ∀ (a : Option Addr) (n c n' c' : Nat) (w : World), (binOp .eql 42 (.slice a n c) (.slice none n' c')).run Tryd.prog w = .ok (.bool a.isNone) w := fun a n c n' c' w => Lib.run_eql_slice_nil w 42 5 a n c n' c' Tryd.underlying42
  go_enter Tryd.func6, Tryd.ntmps6
  go_wp2_with (first | (go_at_call 22; go_in))
  refine (zz_lr s m1 w (by omega) hm10 hm1).mono ?_
  rintro e w1 ⟨kl1, rfl, a1, k1⟩
  have A1 := hide a1
  clear a1
  go_wp2_with fail
  refine (zz_lr s m2 w1 (by omega) hm20 hm2).mono ?_
  rintro e w2 ⟨kl2, rfl, a2, k2⟩
  have A2 := hide a2
  have A1' := hide (A1.out.out (Out.of_kept (B := w1.heap.size) (E := w1.heap.size) k2 (by simp)) (by omega))
  clear a2 A1
  have s1 := k1.size
  have s2 := k2.size
  go_wp2_with fail
  refine (lr_ok A1'.out n (by omega)).mono ?_
  rintro e w3 ⟨rfl, a3, g3, o3⟩
  have A3 := hide a3
  have G3 := hide g3
  have s3 := o3.size
  have s3' := lt_of_heap g3
  have A2' := hide (A2.out.out o3 (by omega))
  clear a3 g3 A2 A1'
  go_wp2_with fail
  refine (lr_ok A2'.out n (by omega)).mono ?_
  rintro e w4 ⟨rfl, a4, g4, o4⟩
  have A4 := hide a4
  have G4 := hide g4
  have s4 := o4.size
  have s4' := lt_of_heap g4
  have G3' := hide (o4.at G3.out (by omega))
  have A3' := hide (A3.out.out o4 (by omega))
  have l4 := ((k1.below (Nat.le_refl _) (by simp)).trans (k2.below s1 (by simp))).trans ((o3.below (C := w.heap.size) (by omega) (by omega)).trans (o4.below (C := w.heap.size) (by omega) (by omega)))
  clear a4 g4 G3 A3 A2' o3 o4 k1 k2
  go_wp2
  go_loopw [17] (fun i w' => ∃ k : Nat, k ≤ n ∧ i = .int .i64 k ∧ Hid (w'.heap = w4.heap) ∧ Below w.heap.size w w') (fun i _ => n - (intOf i).toNat)
  case atStart => exact ⟨0, by omega, rfl, hide rfl, l4⟩
  case round =>
    obtain ⟨k, hk, rfl, HW, hb⟩ := hrel
    by_cases hlt : k < n
    · have hks : k < s.size := by omega
      have c1 : wr.cell? ⟨w2.heap.size, k, none⟩ = some (.int .u8 (s[k].toNat : Int)) := by
        have := cut_cell (w := wr) (by rw [HW.out]; exact G3'.out) k hlt (by omega)
        simpa using this
      have c2 : wr.cell? ⟨w3.heap.size, k, none⟩ = some (.int .u8 (s[k].toNat : Int)) := by
        have := cut_cell (w := wr) (by rw [HW.out]; exact G4.out) k hlt (by omega)
        simpa using this
      have hk0 : (0 : Int) ≤ (k : Int) := by omega
      have hk1 : (k : Int) < (n : Int) := by omega
      go_wp2
      go_quiet (fail)
      go_wp2
      go_roundw
      case rel => exact ⟨k + 1, by omega, by go_num, hide HW.out, hb.trans ⟨rfl, rfl, rfl, Nat.le_refl _, fun _ _ => rfl⟩⟩
      case measure => simp [intOf]; omega
    · obtain rfl : k = n := by omega
      have hwr : Out 0 0 w4 wr := ⟨hb.os.trans l4.os.symm, hb.tape.trans l4.tape.symm, hb.output.trans l4.output.symm, by rw [HW.out]; exact Nat.le_refl _, fun j _ _ => by rw [HW.out]⟩
      have A5 : Hid (Lr w.heap.size w1.heap.size kl1 s k wr) := hide (by have := A3'.out.out hwr (by omega); rwa [Nat.zero_add] at this)
      have A6 : Hid (Lr w1.heap.size w2.heap.size kl2 s k wr) := hide (by have := A4.out.out hwr (by omega); rwa [Nat.zero_add] at this)
      have s5 := hwr.size
      clear l4 A3' A4 G3' G4 hwr HW
      go_wp2_with fail
      obtain ⟨r, hr⟩ : ∃ r : Nat, (s.size : Int) - (k : Int) = (r : Int) := ⟨s.size - k, by omega⟩
      rw [hr]
      have hr1 : k + r ≤ s.size := by omega
      have hr2 : s.size ≤ k + r := by omega
      clear hr
      refine (lr_ok A5.out r hr1).mono ?_
      rintro e w5 ⟨rfl, -, g5, o5⟩
      have G5 := hide g5
      have s5' := lt_of_heap g5
      have A6' := hide (A6.out.out o5 (by omega))
      have l5 := o5.below (C := w.heap.size) (by omega) (by omega)
      clear g5 A5 A6
      go_wp2_with fail
      refine (lr_ok A6'.out r hr1).mono ?_
      rintro e w6 ⟨rfl, -, g6, o6⟩
      have G6 := hide g6
      have s6' := lt_of_heap g6
      have G5' := hide (o6.at G5.out (by omega))
      have l6 := hb.trans (l5.trans (o6.below (C := w.heap.size) (by omega) (by omega)))
      clear g6 G5 A6' l5 o5 o6 hb
      generalize wr.heap.size = b5 at *
      clear wr
      go_wp2
      go_loopw [23] (fun i w' => ∃ q : Nat, q ≤ r ∧ i = .int .i64 q ∧ Hid (w'.heap = w6.heap) ∧ Below w.heap.size w w') (fun i _ => r - (intOf i).toNat)
      case atStart => exact ⟨0, by omega, rfl, hide rfl, l6⟩
      case round =>
        obtain ⟨q, hq, rfl, HW, hb⟩ := hrel
        by_cases hlt2 : q < r
        · have hks : k + q < s.size := by omega
          have c1 : wr.cell? ⟨b5, q, none⟩ = some (.int .u8 (s[k + q].toNat : Int)) := cut_cell (by rw [HW.out]; exact G5'.out) q hlt2 hks
          have c2 : wr.cell? ⟨w5.heap.size, q, none⟩ = some (.int .u8 (s[k + q].toNat : Int)) := cut_cell (by rw [HW.out]; exact G6.out) q hlt2 hks
          have hk0 : (0 : Int) ≤ (q : Int) := by omega
          have hk1 : (q : Int) < (r : Int) := by omega
          have hk2 : (0 : Int) ≤ (k : Int) + (q : Int) := by omega
          have hk3 : (k : Int) + (q : Int) < (s.size : Int) := by omega
          go_wp2
          go_quiet (fail)
          go_wp2
          go_roundw
          case rel => exact ⟨q + 1, by omega, by go_num, hide HW.out, hb.trans ⟨rfl, rfl, rfl, Nat.le_refl _, fun _ _ => rfl⟩⟩
          case measure => simp [intOf]; omega
        · go_wp2
          go_ret
          exact ⟨rfl, hb⟩

end Go.Proofs.Qxb6613067aDoor
