import Derived.Test.Qxb6613471aLe
import Derived.Laws.BitsAllLaws
namespace Go.Proofs.Qxb6613471a
open Go.RowKit

theorem or_lo (a b n : Nat) (h : a < 2 ^ n) : a ||| b * 2 ^ n = a + b * 2 ^ n := by
  rw [Nat.or_comm, ← Nat.shiftLeft_eq, ← Nat.shiftLeft_add_eq_or_of_lt h]
  omega
theorem or_step (x b n : Nat) (hx : x < 2 ^ n) (hb : b * 2 ^ n < 4294967296) (hx2 : x < 4294967296) : bits .or .u32 (x : Int) (((b : Int) * ((2 ^ n : Nat) : Int)) % 4294967296) = ((x + b * 2 ^ n : Nat) : Int) := by
  have h : ((b : Int) * ((2 ^ n : Nat) : Int)) % 4294967296 = ((b * 2 ^ n : Nat) : Int) := by
    rw [← Int.natCast_mul]; omega
  rw [h, u32_or_nat _ _ hx2 hb, or_lo x b n hx]
theorem or_all (a b c d : Nat) (ha : a < 256) (hb : b < 256) (hc : c < 256) (hd : d < 256) :
    bits .or .u32 (bits .or .u32 (bits .or .u32 (a : Int) ((b : Int) * 256 % 4294967296)) ((c : Int) * 65536 % 4294967296)) ((d : Int) * 16777216 % 4294967296) = ((a + 256 * b + 65536 * c + 16777216 * d : Nat) : Int) := by
  have h1 := or_step a b 8 (by omega) (by omega) (by omega)
  have h2 := or_step (a + b * 2 ^ 8) c 16 (by omega) (by omega) (by omega)
  have h3 := or_step (a + b * 2 ^ 8 + c * 2 ^ 16) d 24 (by omega) (by omega) (by omega)
  simp only [show ((2 ^ 8 : Nat) : Int) = 256 from rfl, show ((2 ^ 16 : Nat) : Int) = 65536 from rfl, show ((2 ^ 24 : Nat) : Int) = 16777216 from rfl] at h1 h2 h3
  rw [h1, h2, h3]
  omega

set_option maxRecDepth 100000 in
theorem word_any (s : ByteArray) (p : Nat) (w : World) (hp : p + 4 ≤ s.size) (hs : s.size ≤ 1048576) :
    Calls Try.prog 22 #[.string s, .int .i64 (p : Int)] w fun e w' => e = .returned (.int .u32 ((s[p].toNat + 256 * s[p + 1].toNat + 65536 * s[p + 2].toNat + 16777216 * s[p + 3].toNat : Nat) : Int)) ∧ ∃ n, w' = w.drewN n := by
  have g0 : (0 : Int) ≤ (p : Int) := by omega
  have g1 : (p : Int) < (s.size : Int) := by omega
  have hw1 : IntKind.i64.wrap ((p : Int) + 1) = (p : Int) + 1 := by rw [IntKind.wrap_i64]; omega
  have hw2 : IntKind.i64.wrap ((p : Int) + 2) = (p : Int) + 2 := by rw [IntKind.wrap_i64]; omega
  have hw3 : IntKind.i64.wrap ((p : Int) + 3) = (p : Int) + 3 := by rw [IntKind.wrap_i64]; omega
  have i1 : (p : Int) + 1 < (s.size : Int) := by omega
  have j1 : (0 : Int) ≤ (p : Int) + 1 := by omega
  have t1 : ((p : Int) + 1).toNat = p + 1 := by omega
  have i2 : (p : Int) + 2 < (s.size : Int) := by omega
  have j2 : (0 : Int) ≤ (p : Int) + 2 := by omega
  have t2 : ((p : Int) + 2).toNat = p + 2 := by omega
  have i3 : (p : Int) + 3 < (s.size : Int) := by omega
  have j3 : (0 : Int) ≤ (p : Int) + 3 := by omega
  have t3 : ((p : Int) + 3).toNat = p + 3 := by omega
  have hv : ∀ b : UInt8, IntKind.u32.wrap (b.toNat : Int) = (b.toNat : Int) := fun b => by
    have := b.toNat_lt
    rw [IntKind.wrap_u32]; omega
  go_enter Try.func22, Try.ntmps22
  go_wp2
  go_quiet (fail)
  go_wp2
  go_ret
  exact ⟨congrArg (fun v => Ending.returned (Value.int .u32 v)) (or_all _ _ _ _ s[p].toNat_lt s[p + 1].toNat_lt s[p + 2].toNat_lt s[p + 3].toNat_lt), _, rfl⟩

end Go.Proofs.Qxb6613471a
