import Derived.Test.Qxb6613471aAd
import Derived.Laws.BitsAllLaws
import Derived.Laws.StructEq
namespace Go.Proofs.Qxb6613471a
open Go.RowKit

theorem or_twice (a : Nat) (ha : a < 65536) : bits .or .u16 (bits .or .u16 (a : Int) 256) 256 = bits .or .u16 (a : Int) 256 := by
  have h1 : bits .or .u16 (a : Int) 256 = ((a ||| 256 : Nat) : Int) := u16_or_nat a 256 ha (by omega)
  have h2 : a ||| 256 < 65536 := Nat.or_lt_two_pow (n := 16) ha (by omega)
  rw [h1]
  have h3 : bits .or .u16 (((a ||| 256 : Nat) : Nat) : Int) 256 = (((a ||| 256) ||| 256 : Nat) : Int) := u16_or_nat _ 256 h2 (by omega)
  rw [h3, Nat.or_assoc, Nat.or_self]

/-- A second end with the same key. -/
theorem twice (rW oW : Wt) (k i supi : Nat) (a : Nat) (ha : a < 65536) (hb : rW.brk = (a : Int)) (h4 : rW.sn.size % 4 = 0) (subs : List (Nat × Nat)) (snn : Nat) (hi : i < subs.length) (X : Bool) :
    outW (outW rW k X) k (agB subs i (outW rW k X) oW k supi snn subs.length && !spB i (outW rW k X) oW k subs.length) = { rW with sn := rW.sn ++ packS [k] ++ packS [k], brk := bits .or .u16 (a : Int) 256 } := by
  have hs : spB i (outW rW k X) oW k subs.length = true := by
    unfold spB
    rw [List.any_eq_true]
    refine ⟨i, List.mem_range.2 hi, ?_⟩
    rw [wAt, if_pos rfl]
    exact holds_last rW.sn k h4
  rw [hs]
  simp only [Bool.not_true, Bool.and_false, outW, Bool.false_eq_true, if_false]
  congr 1
  rw [hb]
  cases X
  · simp only [Bool.false_eq_true, if_false]; exact or_twice a ha
  · rfl

theorem fields29 : Try.prog.underlying 29 = some (.struct (Try.prog.fieldsOf 29)) := by kernel_rfl
theorem held29 : Try.prog.stoodInHeld 29 = false := by kernel_rfl
theorem equal29 (a b : Wt) (w : World) : (Op.equal 29 (.agg a.arr) (.agg b.arr)).run Try.prog w = .ok (a.eq b) w := by
  simp only [Op.equal, Op.maxDepth]
  rw [run_equalIn_agg w 9999 29 _ _ fields29 held29]
  simp [Program.fieldsOf, Try.underlying29, Wt.arr, go_sem, Try.underlying9, Try.underlying5, Try.underlying23]
  (repeat' split) <;> simp_all [Wt.eq]

theorem made_rep (z : Value) (n : Nat) : madeCells #[z] n = Array.replicate n z := by
  apply Array.toList_inj.1
  rw [toList_madeCells_one]
  simp

/-- The subscribers, told by the two slices. -/
def pairs (z0 z1 : List Int) (n : Nat) : List (Nat × Nat) := (List.range n).map fun j => ((z0.getD j 0).toNat, (z1.getD j 0).toNat)
theorem pairs_length (z0 z1 : List Int) (n : Nat) : (pairs z0 z1 n).length = n := by simp [pairs]
theorem pairs_get (z0 z1 : List Int) (n j : Nat) (h : j < n) : (pairs z0 z1 n)[j]? = some ((z0.getD j 0).toNat, (z1.getD j 0).toNat) := by
  simp [pairs, h]
theorem pairs_succ (z0 z1 : List Int) (n : Nat) : pairs z0 z1 (n + 1) = pairs z0 z1 n ++ [((z0.getD n 0).toNat, (z1.getD n 0).toNat)] := by
  simp [pairs, List.range_succ]
theorem wf_u32 {z : Int} (h : (Lit.int .u32 z).wf = true) : 0 ≤ z ∧ z < 4294967296 := by
  have h1 : IntKind.u32.min = 0 := rfl
  have h2 : IntKind.u32.max = 4294967295 := rfl
  simp [Lit.wf, h1, h2] at h
  omega
theorem wf_u16 {z : Int} (h : (Lit.int .u16 z).wf = true) : 0 ≤ z ∧ z < 65536 := by
  have h1 : IntKind.u16.min = 0 := rfl
  have h2 : IntKind.u16.max = 65535 := rfl
  simp [Lit.wf, h1, h2] at h
  omega

end Go.Proofs.Qxb6613471a
