import Derived.Test.Qxb6613471aFd
import Derived.Laws.BitsLemmas
namespace Go.Proofs.Qxb6613471a
open Go.RowKit

theorem byte_nat (n : Nat) : (((n % 256).toUInt8).toNat : Int) = ((n % 256 : Nat) : Int) := by
  have : ((n % 256).toUInt8).toNat = n % 256 := by
    simp [Nat.toUInt8_eq]
  rw [this]

theorem packL_one (k : Nat) : packL [k] = [(k % 256).toUInt8, (k / 256 % 256).toUInt8, (k / 256 / 256 % 256).toUInt8, (k / 256 / 256 / 256 % 256).toUInt8] := by
  simp [packL, Lib.leBytes]

set_option maxRecDepth 100000 in
theorem b1le_any (k : Nat) (w : World) (hk : k < 4294967296) :
    Calls Try.prog 17 #[.int .u32 (k : Int)] w fun e w' => e = .returned (.string (packS [k])) ∧ Kept [] w w' := by
  have hcv : (convert 33 9 (.slice (some ⟨w.heap.size, 0, none⟩) 4 4)).run Try.prog (w.alloc (.cells #[.int .u8 ((k : Int) % 256), .int .u8 ((k : Int) / 256 % 256), .int .u8 ((k : Int) / 65536 % 256), .int .u8 ((k : Int) / 16777216)] 5)) = .ok (.string (packS [k])) (w.alloc (.cells #[.int .u8 ((k : Int) % 256), .int .u8 ((k : Int) / 256 % 256), .int .u8 ((k : Int) / 65536 % 256), .int .u8 ((k : Int) / 16777216)] 5)) := by
    have hn := heap_alloc_new w (.cells #[.int .u8 ((k : Int) % 256), .int .u8 ((k : Int) / 256 % 256), .int .u8 ((k : Int) / 65536 % 256), .int .u8 ((k : Int) / 16777216)] 5)
    have hl : (packL [k]).length = 4 := packL_length [k]
    have := run_convert_bytes_back (P := Try.prog) (w.alloc (.cells #[.int .u8 ((k : Int) % 256), .int .u8 ((k : Int) / 256 % 256), .int .u8 ((k : Int) / 65536 % 256), .int .u8 ((k : Int) / 16777216)] 5)) 33 9 5 ⟨w.heap.size, 0, none⟩ 4 (packL [k]) Try.underlying33 Try.underlying5 Try.underlying9 (fun j hj => by
      have hadd : (⟨w.heap.size, 0, none⟩ : Addr).add j = ⟨w.heap.size, j, none⟩ := by rw [Lib.addr_add, Nat.zero_add]
      rw [hadd, Lib.cell_of_heap hn]
      simp only [packL_one]
      rw [hl] at hj
      match j, hj with
      | 0, _ => simp [-UInt8.toNat_ofNat', byte_nat]
      | 1, _ => simp [-UInt8.toNat_ofNat', byte_nat]
      | 2, _ => simp [-UInt8.toNat_ofNat', byte_nat]; omega
      | 3, _ => simp [-UInt8.toNat_ofNat', byte_nat]; omega)
    rw [hl] at this
    exact this
  go_enter Try.func17, Try.ntmps17
  go_wp2
  go_ret
  exact ⟨rfl, (Kept.refl _ _).alloc _⟩

end Go.Proofs.Qxb6613471a
