import Derived.Test.Qxb6613067aDoorLr
import Derived.Lib.SliceRun
namespace Go.Proofs.Qxb6613067aDoor
open Go.RowKit

set_option maxHeartbeats 400000 in
theorem left_any (s : ByteArray) (ks : Nat) (pr : Int) (w : World) (hks : w.heap[ks]? = some (.cells #[.string s, .int .i64 0, .int .i64 pr] 70 (0, 0))) (_hs : s.size ≤ 2097152) :
    Calls Tryd.prog 17 #[.pointer (some ⟨ks, 0, none⟩)] w fun e w' => e = .returned (.int .i64 s.size) ∧ w'.heap = w.heap ∧ Kept [] w w' := by
  have c0 : w.cell? ⟨ks, 0, none⟩ = some (.string s) := by rw [Lib.cell_of_heap hks]; rfl
  have c1 : w.cell? ⟨ks, 1, none⟩ = some (.int .i64 0) := by rw [Lib.cell_of_heap hks]; rfl
  clear hks
  by_cases h0 : s = ByteArray.empty
  · subst h0
    go_enter Tryd.func17, Tryd.ntmps17
    go_wp2
    go_quiet (fail)
    go_wp2
    go_ret
    exact ⟨rfl, rfl, (Kept.refl _ _).drewN _⟩
  · go_enter Tryd.func17, Tryd.ntmps17
    go_wp2
    go_quiet (fail)
    go_wp2
    go_quiet (fail)
    go_wp2
    go_ret
    exact ⟨rfl, rfl, ((Kept.refl _ _).drewN _).drewN _⟩

set_option maxRecDepth 100000 in
set_option maxHeartbeats 400000 in
theorem fresh_out (s : ByteArray) (m : Int) (w : World) (hs : s.size ≤ maxLen) (h : 1048576 < s.size ∨ 65536 < m) :
    Calls Tryd.prog 5 #[.string s, .int .i64 m] w fun e w' => e = .returned (.bool true) ∧ w' = w := by
  unfold maxLen at hs
  by_cases h1 : 1048576 < s.size
  · go_enter Tryd.func5, Tryd.ntmps5
    go_wp2
    go_ret
    exact ⟨rfl, rfl⟩
  have h2 : 65536 < m := by omega
  go_enter Tryd.func5, Tryd.ntmps5
  go_wp2
  go_ret
  exact ⟨rfl, rfl⟩

set_option maxRecDepth 100000 in
set_option maxHeartbeats 1000000 in
theorem fresh_ok (s : ByteArray) (m : Int) (w : World) (hs : s.size ≤ 1048576) (hm0 : -9223372036854775808 ≤ m) (hm1 : m ≤ 65536) (ea ua : Addr) (h3 : 3 ≤ w.heap.size)
    (heof : w.cell? ⟨1, 0, none⟩ = some (.iface 104 (.pointer (some ea)))) (hueof : w.cell? ⟨2, 0, none⟩ = some (.iface 104 (.pointer (some ua)))) :
    Calls Tryd.prog 5 #[.string s, .int .i64 m] w fun e w' => e = .returned (.bool true) ∧ Below w.heap.size w w' := by
  have HE := hide heof
  have HU := hide hueof
  clear heof hueof
  have b1 : decide ((1048576 : Int) < (s.size : Int)) = false := by simp; omega
  have b2 : decide ((65536 : Int) < m) = false := by simp; omega
  have hsn : ∀ (a : Option Addr) (n c n' c' : Nat) (w : World), (binOp .eql 42 (.slice a n c) (.slice none n' c')).run Tryd.prog w = .ok (.bool a.isNone) w := fun a n c n' c' w => Lib.run_eql_slice_nil w 42 5 a n c n' c' Tryd.underlying42
  go_enter Tryd.func5, Tryd.ntmps5
  go_wp2_with (first | (go_at_call 15; go_in))
  refine (zz_any s m w hm0 hm1).mono ?_
  rintro e w1 ⟨Z, kl, hZ, rfl, hkl, a0, a1, a2, a3, k1⟩
  have A0 := hide a0
  have A1 := hide a1
  have A2 := hide a2
  have A3 := hide a3
  have HZ := hide hZ
  clear a0 a1 a2 a3 hZ
  go_wp2_with fail
  refine (left_any s w.heap.size (-1) w1 A2.out (by omega)).mono ?_
  rintro e w2 ⟨rfl, hh, k2⟩
  have d0 : w2.cell? ⟨kl, 0, none⟩ = some (.pointer (some ⟨w.heap.size + 1, 0, none⟩)) := by rw [Lib.cell_of_heap (k2.at A0.out (by simp))]; rfl
  have d1 : w2.cell? ⟨kl, 1, none⟩ = some (.int .i64 m) := by rw [Lib.cell_of_heap (k2.at A0.out (by simp))]; rfl
  have d2 : w2.cell? ⟨kl, 2, none⟩ = some (.bool false) := by rw [Lib.cell_of_heap (k2.at A0.out (by simp))]; rfl
  have e0 : w2.cell? ⟨w.heap.size + 1, 0, none⟩ = some (.slice (some ⟨w.heap.size + 2, 0, none⟩) (bufN m) (bufN m)) := by rw [Lib.cell_of_heap (k2.at A1.out (by simp))]; rfl
  have FR := hide (lr_fresh (by omega) (bufN_bd m hm1) hkl HZ.out (k2.at A0.out (by simp)) (k2.at A1.out (by simp)) (k2.at A2.out (by simp)) (k2.at A3.out (by simp)))
  have hbe : m + 2 < 16 ∧ (bufN m : Int) = 16 ∨ 16 ≤ m + 2 ∧ (bufN m : Int) = m + 2 := by unfold bufN; omega
  have k3 := k1.trans k2
  clear hh k1 k2 A0 A1 A2 A3 HZ
  have hs2 := k3.size
  rcases hbe with ⟨h4, h5⟩ | ⟨h4, h5⟩
  · have h6 : ((bufN m : Int) != 16) = false := by rw [h5]; rfl
    have h7 : decide (m + 2 < 16) = true := by simp; omega
    clear h5
    go_wp2_with (first | (go_at_call 18; go_in) | (go_at_call 19; go_in) | (go_at_call 20; go_in) | (go_at_call 32; go_in))
    refine (lr_ok FR.out s.size (by omega)).mono ?_
    rintro e w3 ⟨rfl, a3, g3, o3⟩
    rw [Nat.zero_add] at a3
    have A3 := hide a3
    have G3 := hide g3
    have s3' := lt_of_heap g3
    have l3 := (k3.below (Nat.le_refl _) (by simp)).trans (o3.below (C := w.heap.size) (by omega) (by omega))
    clear a3 g3 FR d0 d1 d2 e0 k3 o3
    go_wp2
    go_loopw [10] (fun i w' => ∃ k : Nat, k ≤ s.size ∧ i = .int .i64 k ∧ Hid (w'.heap = w3.heap) ∧ Below w.heap.size w w') (fun i _ => s.size - (intOf i).toNat)
    case atStart => exact ⟨0, by omega, rfl, hide rfl, l3⟩
    case round =>
      obtain ⟨k, hk, rfl, HW, hb⟩ := hrel
      by_cases hlt : k < s.size
      · have c1 : wr.cell? ⟨w2.heap.size, k, none⟩ = some (.int .u8 (s[k].toNat : Int)) := by
          have := cut_cell (w := wr) (by rw [HW.out]; exact G3.out) k hlt (by omega)
          simpa using this
        have hk0 : (0 : Int) ≤ (k : Int) := by omega
        have hk1 : (k : Int) < (s.size : Int) := by omega
        go_wp2
        go_quiet (fail)
        go_wp2
        go_roundw
        case rel => exact ⟨k + 1, by omega, by go_num, hide HW.out, hb.trans ⟨rfl, rfl, rfl, Nat.le_refl _, fun _ _ => rfl⟩⟩
        case measure => simp [intOf]; omega
      · have hwr : Out 0 0 w3 wr := ⟨hb.os.trans l3.os.symm, hb.tape.trans l3.tape.symm, hb.output.trans l3.output.symm, by rw [HW.out]; exact Nat.le_refl _, fun j _ _ => by rw [HW.out]⟩
        have A5 := hide (A3.out.out hwr (by omega))
        have E5 := hide (below_cell hb HE.out (by simp; omega))
        have U5 := hide (below_cell hb HU.out (by simp; omega))
        have s5 := hwr.size
        clear l3 A3 G3 hwr HW
        go_wp2_with fail
        refine (lr_err A5.out 1 (by omega) (by omega) h3 ea ua E5.out U5.out).mono ?_
        rintro e w5 ⟨xa, rfl, -, o5⟩
        have l5 := hb.trans (o5.below (C := w.heap.size) (by omega) (by omega))
        clear A5 E5 U5 o5 hb
        go_wp2
        go_ret
        exact ⟨rfl, l5⟩
  · have h6 : ((bufN m : Int) != (m + 2)) = false := by rw [h5]; simp
    have h7 : decide (m + 2 < 16) = false := by simp; omega
    clear h5
    go_wp2_with (first | (go_at_call 18; go_in) | (go_at_call 19; go_in) | (go_at_call 20; go_in) | (go_at_call 32; go_in))
    refine (lr_ok FR.out s.size (by omega)).mono ?_
    rintro e w3 ⟨rfl, a3, g3, o3⟩
    rw [Nat.zero_add] at a3
    have A3 := hide a3
    have G3 := hide g3
    have s3' := lt_of_heap g3
    have l3 := (k3.below (Nat.le_refl _) (by simp)).trans (o3.below (C := w.heap.size) (by omega) (by omega))
    clear a3 g3 FR d0 d1 d2 e0 k3 o3
    go_wp2
    go_loopw [10] (fun i w' => ∃ k : Nat, k ≤ s.size ∧ i = .int .i64 k ∧ Hid (w'.heap = w3.heap) ∧ Below w.heap.size w w') (fun i _ => s.size - (intOf i).toNat)
    case atStart => exact ⟨0, by omega, rfl, hide rfl, l3⟩
    case round =>
      obtain ⟨k, hk, rfl, HW, hb⟩ := hrel
      by_cases hlt : k < s.size
      · have c1 : wr.cell? ⟨w2.heap.size, k, none⟩ = some (.int .u8 (s[k].toNat : Int)) := by
          have := cut_cell (w := wr) (by rw [HW.out]; exact G3.out) k hlt (by omega)
          simpa using this
        have hk0 : (0 : Int) ≤ (k : Int) := by omega
        have hk1 : (k : Int) < (s.size : Int) := by omega
        go_wp2
        go_quiet (fail)
        go_wp2
        go_roundw
        case rel => exact ⟨k + 1, by omega, by go_num, hide HW.out, hb.trans ⟨rfl, rfl, rfl, Nat.le_refl _, fun _ _ => rfl⟩⟩
        case measure => simp [intOf]; omega
      · have hwr : Out 0 0 w3 wr := ⟨hb.os.trans l3.os.symm, hb.tape.trans l3.tape.symm, hb.output.trans l3.output.symm, by rw [HW.out]; exact Nat.le_refl _, fun j _ _ => by rw [HW.out]⟩
        have A5 := hide (A3.out.out hwr (by omega))
        have E5 := hide (below_cell hb HE.out (by simp; omega))
        have U5 := hide (below_cell hb HU.out (by simp; omega))
        have s5 := hwr.size
        clear l3 A3 G3 hwr HW
        go_wp2_with fail
        refine (lr_err A5.out 1 (by omega) (by omega) h3 ea ua E5.out U5.out).mono ?_
        rintro e w5 ⟨xa, rfl, -, o5⟩
        have l5 := hb.trans (o5.below (C := w.heap.size) (by omega) (by omega))
        clear A5 E5 U5 o5 hb
        go_wp2
        go_ret
        exact ⟨rfl, l5⟩

end Go.Proofs.Qxb6613067aDoor
