import Derived.Test.Qxb6613067aDoorLr
import Derived.Lib.SliceRun
namespace Go.Proofs.Qxb6613067aDoor
open Go.RowKit

set_option maxRecDepth 100000 in
set_option maxHeartbeats 400000 in
theorem blocks_out (s : ByteArray) (m1 m2 n : Int) (w : World) (hs : s.size ≤ maxLen) (h : 1048576 < s.size ∨ 65536 < m1 ∨ 65536 < m2 ∨ n < 0 ∨ 65536 < n) :
    Calls Tryd.prog 6 #[.string s, .int .i64 m1, .int .i64 m2, .int .i64 n] w fun e w' => e = .returned (.bool true) ∧ w' = w := by
  unfold maxLen at hs
  by_cases h1 : 1048576 < s.size
  · go_enter Tryd.func6, Tryd.ntmps6
    go_wp2
    go_ret
    exact ⟨rfl, rfl⟩
  by_cases h2 : 65536 < m1
  · go_enter Tryd.func6, Tryd.ntmps6
    go_wp2
    go_ret
    exact ⟨rfl, rfl⟩
  by_cases h3 : 65536 < m2
  · go_enter Tryd.func6, Tryd.ntmps6
    go_wp2
    go_ret
    exact ⟨rfl, rfl⟩
  by_cases h4 : n < 0
  · go_enter Tryd.func6, Tryd.ntmps6
    go_wp2
    go_ret
    exact ⟨rfl, rfl⟩
  have h5 : 65536 < n := by omega
  go_enter Tryd.func6, Tryd.ntmps6
  go_wp2
  go_ret
  exact ⟨rfl, rfl⟩

set_option maxRecDepth 100000 in
set_option maxHeartbeats 400000 in
theorem blocks_err (s : ByteArray) (m1 m2 : Int) (n : Nat) (w : World) (hs : s.size ≤ 1048576) (hm10 : -9223372036854775808 ≤ m1) (hm1 : m1 ≤ 65536) (hm20 : -9223372036854775808 ≤ m2) (hm2 : m2 ≤ 65536)
    (hn : n ≤ 65536) (hns : s.size < n) (ea ua : Addr) (h3 : 3 ≤ w.heap.size)
    (heof : w.cell? ⟨1, 0, none⟩ = some (.iface 104 (.pointer (some ea)))) (hueof : w.cell? ⟨2, 0, none⟩ = some (.iface 104 (.pointer (some ua)))) :
    Calls Tryd.prog 6 #[.string s, .int .i64 m1, .int .i64 m2, .int .i64 n] w fun e w' => e = .returned (.bool true) ∧ Below w.heap.size w w' := by
  have HE := hide heof
  have HU := hide hueof
  clear heof hueof
  have b1 : decide ((1048576 : Int) < (s.size : Int)) = false := by simp; omega
  have b2 : decide ((65536 : Int) < m1) = false := by simp; omega
  have b3 : decide ((65536 : Int) < m2) = false := by simp; omega
  have b4 : decide ((n : Int) < 0) = false := by simp
  have b5 : decide ((65536 : Int) < (n : Int)) = false := by simp; omega
  have hsn : ∀ (a : Option Addr) (n c n' c' : Nat) (w : World), (binOp .eql 42 (.slice a n c) (.slice none n' c')).run Tryd.prog w = .ok (.bool a.isNone) w := fun a n c n' c' w => Lib.run_eql_slice_nil w 42 5 a n c n' c' Tryd.underlying42
  have b6 : decide ((s.size : Int) < (n : Int)) = true := by simp; omega
  go_enter Tryd.func6, Tryd.ntmps6
  go_wp2_with (first | (go_at_call 22; go_in))
  refine (zz_lr s m1 w (by omega) hm10 hm1).mono ?_
  rintro e w1 ⟨kl1, rfl, a1, k1⟩
  have A1 := hide a1
  clear a1
  go_wp2_with fail
  refine (zz_lr s m2 w1 (by omega) hm20 hm2).mono ?_
  rintro e w2 ⟨kl2, rfl, a2, k2⟩
  have A2 := hide a2
  have A1' := hide (A1.out.out (Out.of_kept (B := w1.heap.size) (E := w1.heap.size) k2 (by simp)) (by omega))
  clear a2 A1
  have s1 := k1.size
  have s2 := k2.size
  go_wp2_with fail
  have hE2 := (k1.trans k2).cell HE.out (by simp)
  have hU2 := (k1.trans k2).cell HU.out (by simp)
  refine (lr_err A1'.out n (by omega) (by omega) h3 ea ua hE2 hU2).mono ?_
  rintro e w3 ⟨xa, rfl, -, o3⟩
  have A2' := hide (A2.out.out o3 (by omega))
  have l3 := o3.below (C := w.heap.size) (by omega) (Nat.le_refl _)
  have hE3 := below_cell l3 hE2 (by simp; omega)
  have hU3 := below_cell l3 hU2 (by simp; omega)
  have HE3 := hide hE3
  have HU3 := hide hU3
  clear hE2 hU2 hE3 hU3 A2 A1'
  go_wp2_with fail
  refine (lr_err A2'.out n (by omega) (by omega) (by omega) ea ua HE3.out HU3.out).mono ?_
  rintro e w4 ⟨xb, rfl, -, o4⟩
  have s3 := o3.size
  have l4 := o4.below (C := w.heap.size) (by omega) (by omega)
  go_wp2
  go_ret
  exact ⟨rfl, ((k1.below (Nat.le_refl _) (by simp)).trans (k2.below s1 (by simp))).trans (l3.trans l4)⟩

end Go.Proofs.Qxb6613067aDoor
