/-
  DERIVED: THE SHELF's CONTRACTS AT THIS DUMP, IN PLAIN WORDS (tools/lay-plain.mjs out of 'TryShelf.lean', which tools/lay-shelf.mjs wrote): THE SAME DECLARATIONS UNDER THE SAME NAMES: 'import', 'namespace', 'open', 'def', 'theorem' AND NOTHING ELSE: no command of the shelf's: FOR A HAND-IN. Each laying: the table of numbers ('.._ren') and one theorem, a field a fact of the dump's own or the kernel's comparison; each contract: ONE APPLICATION.
-/
import Derived.Shelf.Bin.LEAppendUint32
import Derived.Test.Qxb6613471aProg
namespace Go.Proofs
open Go.Shelf
def Try.laysBin32_ren : Go.Shelf.Ren := ⟨fun | 32 => 29 | n => n, fun | 25 => 128 | 22 => 33 | 29 => 24 | 0 => 0 | 5 => 5 | 45 => 114 | n => n, fun | n => n⟩
theorem Try.laysBin32 : Go.Proofs.LaysBin.n32 Try.prog Try.laysBin32_ren := {
  mixed := by kernel_rfl
  f32 := Try.func29.trans (congrArg some (by kernel_rfl))
  t0 := Try.underlying0
  a0 := Try.isAgg0
  z0 := Try.sizeOf0
  v0 := Try.zeroValue0
  i0 := by kernel_rfl
  t5 := Try.underlying5
  a5 := Try.isAgg5
  z5 := Try.sizeOf5
  v5 := Try.zeroValue5
  i5 := by kernel_rfl
  t22 := Try.underlying33
  a22 := Try.isAgg33
  z22 := Try.sizeOf33
  v22 := Try.zeroValue33
  i22 := by kernel_rfl
  t25 := Try.underlying128
  a25 := Try.isAgg128
  z25 := Try.sizeOf128
  v25 := Try.zeroValue128
  i25 := by kernel_rfl
  t29 := Try.underlying24
  a29 := Try.isAgg24
  z29 := Try.sizeOf24
  v29 := Try.zeroValue24
  i29 := by kernel_rfl
  t45 := Try.underlying114
  a45 := Try.isAgg114
  z45 := Try.sizeOf114
  v45 := Try.zeroValue114
  i45 := by kernel_rfl }
open Go.RowKit in
/-- binary.LittleEndian.AppendUint32: "AppendUint32 appends the bytes of v to b and returns the appended slice.": WHAT COMES BACK OWNS b's CELLS AND, BEHIND THEM, v's 4 BYTES, the least first ('Lib.leBytes 4 v'). Below the call's own blocks nothing has turned. (LAID: no walk: one application.) -/
theorem Try.binary_LE_AppendUint32 (B n v : Nat) (hv : v < 4294967296) (sv : Value) (xs : List Value) (w : World) (hown : w.ownsRow B 5 1 sv n xs) (hBw : B ≤ w.heap.size) (hlim : n + 4 ≤ 140737488355328) :
    Calls Try.prog 29 #[.agg #[], sv, .int .u32 v] w fun e w' => ∃ v', e = .returned v' ∧ w'.ownsRow B 5 1 v' (n + 4) (xs ++ Lib.byteCells (Lib.leBytes 4 v)) ∧ Below B w w' := Any.binary_LE_AppendUint32 Try.laysBin32 B n v hv sv xs w hown hBw hlim
end Go.Proofs
