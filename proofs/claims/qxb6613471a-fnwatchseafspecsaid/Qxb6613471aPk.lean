import Derived.Test.Qxb6613471aMem
import Derived.Test.Qxb6613471aShelf
import Derived.BigQuiet
import Derived.Deep.QuietTactic
import Derived.Deep.RegionHeld3
import Derived.Deep.RegionWith
import Derived.Deep.AppendLies
namespace Go.Proofs.Qxb6613471a
open Go.RowKit

/-- A list of terms as bytes, the least first. -/
def packL (ts : List Nat) : List UInt8 := ts.flatMap (Lib.leBytes 4)
def packS (ts : List Nat) : ByteArray := ⟨(packL ts).toArray⟩
theorem le_length (v : Nat) : (Lib.leBytes 4 v).length = 4 := by simp [Lib.leBytes]
theorem packL_length (ts : List Nat) : (packL ts).length = 4 * ts.length := by
  induction ts with
  | nil => rfl
  | cons t r ih => simp only [packL, List.flatMap_cons, List.length_append, le_length, List.length_cons] at *; omega
theorem packL_snoc (ts : List Nat) (t : Nat) : packL (ts ++ [t]) = packL ts ++ Lib.leBytes 4 t := by simp [packL]
theorem info5z : (Try.prog.info? 5).map (fun i => (i.zero, i.size, i.bytes)) = some (some (.int .u8 0), 1, 1) := by kernel_rfl

set_option maxHeartbeats 400000 in
theorem pack_any (g : Nat) (ts : List Nat) (w : World) (hg : ∀ j (h : j < ts.length), w.cell? ⟨g, j, none⟩ = some (.int .u32 (ts[j] : Int))) (hgl : g < w.heap.size) (h32 : ∀ t ∈ ts, t < 4294967296) (hl : ts.length ≤ 1000) (hl1 : 1 ≤ ts.length) :
    Calls Try.prog 26 #[.slice (some ⟨g, 0, none⟩) ts.length ts.length] w fun e w' => e = .returned (.string (packS ts)) ∧ Below w.heap.size w w' := by
  have HG := hide hg
  have H32 := hide h32
  clear hg h32
  obtain ⟨i0, hi, hz0, hz1, hz2⟩ := info_parts info5z
  go_enter Try.func26, Try.ntmps26
  go_wp2_with (at_make; refine wpList_make_own _ rfl _ _ 33 rfl w.heap.size 5 i0 (.int .u8 0) 1 Try.underlying33 hi hz0 hz1 _ _ _ (4 * ts.length) rfl rfl (by omega) (by rw [hz2]; omega) (by unfold maxLen; omega) (Nat.le_refl _) ?_; intro w1 hown1 hgrow1)
  have b1 : Below w.heap.size w w1 := (Below.refl _ _).grown hgrow1 (Nat.le_refl _) (by simp)
  have HO := hide hown1
  clear hown1 hgrow1 hi hz0 hz1 hz2
  go_loopw [3, 12, 5] (fun b i _ w' => ∃ k : Nat, k ≤ ts.length ∧ i = .int .i64 k ∧ Hid (w'.ownsRow w.heap.size 5 1 b (4 * k) (Lib.byteCells (packL (ts.take k)))) ∧ Below w.heap.size w w') (fun _ i _ _ => ts.length - (intOf i).toNat)
  case atStart => exact ⟨0, by omega, rfl, HO, b1⟩
  case round =>
    obtain ⟨k, hk, rfl, HK, hb⟩ := hrel
    by_cases hlt : k < ts.length
    · have c1 : wr.cell? ⟨g, k, none⟩ = some (.int .u32 (ts[k] : Int)) := by rw [hb.cell (p := ⟨g, k, none⟩) hgl]; exact HG.out k hlt
      have hk0 : (0 : Int) ≤ (k : Int) := by omega
      have hk1 : (k : Int) < (ts.length : Int) := by omega
      have hv : ts[k] < 4294967296 := H32.out _ (List.getElem_mem _)
      have hs := hb.size
      go_wp2_with fail
      refine (Try.binary_LE_AppendUint32 w.heap.size (4 * k) ts[k] hv u3 _ wr HK.out hs (by omega)).mono ?_
      rintro e w2 ⟨v', rfl, ho, hb2⟩
      have HO2 : Hid (w2.ownsRow w.heap.size 5 1 v' (4 * (k + 1)) (Lib.byteCells (packL (ts.take (k + 1))))) := by
        rw [← Lib.byteCells_append, ← packL_snoc, ← List.take_succ_eq_append_getElem hlt] at ho
        exact ho
      clear ho HK
      go_wp2
      go_roundw
      case rel => exact ⟨k + 1, by omega, by go_num, HO2, hb.trans hb2⟩
      case measure => simp [intOf]; omega
    · obtain rfl : k = ts.length := by omega
      have ho := HK.out
      rw [List.take_of_length_le (Nat.le_refl _)] at ho
      obtain ⟨gb, cap, rfl, hgb, hgb2⟩ := ho.form (by omega)
      have hl4 := packL_length ts
      have hcv : (convert 33 9 (.slice (some ⟨gb, 0, none⟩) (4 * ts.length) cap)).run Try.prog wr = .ok (.string (packS ts)) wr := by
        have := run_convert_bytes_back (P := Try.prog) wr 33 9 5 ⟨gb, 0, none⟩ cap (packL ts) Try.underlying33 Try.underlying5 Try.underlying9 (fun j hj => by
          have hadd : (⟨gb, 0, none⟩ : Addr).add j = ⟨gb, j, none⟩ := by rw [Lib.addr_add, Nat.zero_add]
          rw [hadd, ho.cellAt j (by omega)]
          simp [Lib.byteCells, hj])
        rw [hl4] at this
        exact this
      clear ho HK hl4
      go_wp2
      go_ret
      exact ⟨rfl, hb⟩

end Go.Proofs.Qxb6613471a
