import Derived.Test.Qxb6613067aDoorRows
import Derived.ProofKit
import Derived.LaidMore
import Derived.OpenShut
import Derived.Stop.Joined
import Derived.Stop.LaidErr
import Derived.Below
namespace Go.Proofs.Qxb6613067aDoor
open Go.ChangeShapes Go.WideShapes Go.ChangeAt Go.RowKit

theorem own : ownKnob Tryd.prog.godebug = none := by kernel_rfl
theorem gSB : Tryd.prog.globalNamed "io.ErrShortBuffer" = some 0 := by kernel_rfl
theorem gEOF : Tryd.prog.globalNamed "io.EOF" = some 1 := by kernel_rfl
theorem gUEOF : Tryd.prog.globalNamed "io.ErrUnexpectedEOF" = some 2 := by kernel_rfl
theorem tEOF : (Tryd.prog.globals[1]?).map (·.type) = some 44 := by kernel_rfl
theorem tUEOF : (Tryd.prog.globals[2]?).map (·.type) = some 44 := by kernel_rfl
theorem cells126 : Tryd.prog.cellsOf 126 = 1 := by kernel_rfl
theorem cells9 : Tryd.prog.cellsOf 9 = 1 := by kernel_rfl
/-- The dynamic type's name in a listed interface datum. -/
def nameIn : DataW Unit → String | .iface n _ => n | _ => "none"
/-- The one type of that name. -/
theorem row104 (u : TypeId) (h : Tryd.prog.typeName? 3 u = some (nameIn Rows.laid_io_EOF)) : u = 104 :=
  typeName_ptr_named (nm := "errors.errorString") (by kernel_rfl) (by kernel_rfl) (by decide) u (h.trans (by kernel_rfl))

/-- The three sentinels as the rows list them. -/
def laidErr : List (String × DataW Unit) := [("io.ErrShortBuffer", Rows.laid_io_ErrShortBuffer), ("io.EOF", Rows.laid_io_EOF), ("io.ErrUnexpectedEOF", Rows.laid_io_ErrUnexpectedEOF)]

/-- The door's own heap meets the condition. -/
theorem door_met (os : Os) (args : Array Value) : laidMetH Tryd.prog laidErr ((World.doorLaid Tryd.prog 400 os).forCall (fun _ _ => 0) ⟨#[], args, []⟩).memory :=
  laidMetH_of_parts3 (fuel := 8) (laidMet_of_run' 8 (by kernel_rfl) (by kernel_rfl)) (by kernel_rfl) (by kernel_rfl)

/-- What the condition gives the walks. -/
theorem of_laid {W : World} (h : laidMetH Tryd.prog laidErr W) : ∃ ea ua : Addr, W.cell? ⟨1, 0, none⟩ = some (.iface 104 (.pointer (some ea))) ∧ W.cell? ⟨2, 0, none⟩ = some (.iface 104 (.pointer (some ua))) ∧ 3 ≤ W.heap.size := by
  rw [MakeChecks.laidMetH_plain _ _ _ (by kernel_rfl)] at h
  have h1 : laidMet Tryd.prog [("io.EOF", Rows.laid_io_EOF), ("io.ErrUnexpectedEOF", Rows.laid_io_ErrUnexpectedEOF)] W := laidMet.tail h
  have h2 : laidMet Tryd.prog [("io.ErrUnexpectedEOF", Rows.laid_io_ErrUnexpectedEOF)] W := laidMet.tail h1
  obtain ⟨ea, _, hv1, -, -, -⟩ := laid_sentinel h1 gEOF tEOF Tryd.underlying44 row104 Tryd.underlying104 Tryd.underlying126 rfl rfl Tryd.underlying9 cells126 cells9
  obtain ⟨ua, _, hv2, -, -, -⟩ := laid_sentinel h2 gUEOF tUEOF Tryd.underlying44 row104 Tryd.underlying104 Tryd.underlying126 rfl rfl Tryd.underlying9 cells126 cells9
  have c1 := World.var?_cell gEOF hv1 0
  have c2 := World.var?_cell gUEOF hv2 0
  refine ⟨ea, ua, by simpa using c1, by simpa using c2, ?_⟩
  rcases Nat.lt_or_ge 2 W.heap.size with h' | h'
  · exact h'
  · exact absurd c2 (by simp [World.cell?, Array.getElem?_eq_none h'])

end Go.Proofs.Qxb6613067aDoor
