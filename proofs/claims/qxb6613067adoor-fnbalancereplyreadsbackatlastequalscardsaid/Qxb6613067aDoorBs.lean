import Derived.Test.Qxb6613067aDoorBal
namespace Go.Proofs.Qxb6613067aDoor
open Go.RowKit

set_option maxHeartbeats 400000 in
theorem split_core (t : ByteArray) (P : Nat) (w : World) (hP : P + 3 ≤ t.size) (ht : t.size ≤ 1048700)
    (a0 : ((t[P].toNat : Int) == 32) = true) (a1 : ((t[P + 1].toNat : Int) == 61) = true) (a2 : ((t[P + 2].toNat : Int) == 32) = true)
    (hno : ∀ k, P < k → (h : k + 3 ≤ t.size) → ((t[k].toNat : Int) == 32) = false ∨ ((t[k].toNat : Int) == 32) = true ∧ ((t[k + 1].toNat : Int) == 61) = false) :
    Calls Tryd.prog 10 #[.string t] w fun e w' => e = .returned (.tuple #[.string (t.extract 0 P), .string (t.extract (P + 3) t.size), .bool true]) ∧ Below w.heap.size w w' := by
  have HN := bhide hno
  clear hno
  have A0 := bhide a0
  have A1 := bhide a1
  have A2 := bhide a2
  clear a0 a1 a2
  go_enter Tryd.func10, Tryd.ntmps10
  go_wp2
  go_loop [5] (fun i => ∃ k : Nat, P ≤ k ∧ k + 3 ≤ t.size ∧ i = .int .i64 k) (fun i => (intOf i).toNat)
  case atStart => exact ⟨t.size - 3, by omega, by omega, by go_num⟩
  case round =>
    obtain ⟨k, hk, hk3, rfl⟩ := hrel
    have h0 : k < t.size := by omega
    have h1 : k + 1 < t.size := by omega
    have h2 : k + 2 < t.size := by omega
    by_cases hlt : P < k
    · rcases HN.out k hlt hk3 with b0 | ⟨b0, b1⟩
      · go_wp2
        go_round
        case rel => exact ⟨k - 1, by omega, by omega, by go_num⟩
        case measure => simp [intOf]; omega
      · go_wp2
        go_round
        case rel => exact ⟨k - 1, by omega, by omega, by go_num⟩
        case measure => simp [intOf]; omega
    · obtain rfl : k = P := by omega
      have a0 := A0.out
      have a1 := A1.out
      have a2 := A2.out
      have g1 : (0 : Int) ≤ (k : Int) := by omega
      have g2 : (k : Int) ≤ (t.size : Int) := by omega
      have g3 : (k : Int) + 3 ≤ (t.size : Int) := by omega
      go_wp2
      go_quiet (fail)
      go_wp2
      go_ret3
      exact ⟨rfl, (Below.refl _ _).trans ⟨rfl, rfl, rfl, Nat.le_refl _, fun _ _ => rfl⟩⟩

end Go.Proofs.Qxb6613067aDoor
