import Derived.Test.Qxb6613067aDoorBal
import Derived.ProofKit
import Derived.LaidMore
import Derived.OpenShut
import Derived.Stop.Joined
import Derived.Stop.LaidErr
import Derived.Below
namespace Go.Proofs.Qxb6613067aDoor
open Go.ChangeShapes Go.WideShapes Go.ChangeAt Go.RowKit

theorem ownT : ownKnob Tryd.prog.godebug = none := by kernel_rfl
theorem gTab : Tryd.prog.globalNamed tabName = some 3 := by kernel_rfl
theorem tTab : (Tryd.prog.globals[3]?).map (·.type) = some 95 := by kernel_rfl
theorem cells55 : Tryd.prog.cellsOf 55 = 1 := by kernel_rfl
theorem cells95 : Tryd.prog.cellsOf 95 = 20 := by kernel_rfl

/-- The three tables as the rows list them. -/
def laidTab : List (String × DataW Unit) := Rows.fnBalanceReplyReadsBackAtLastEqualsRow.laid

/-- The door's own heap meets the condition. -/
theorem door_metT (os : Os) (args : Array Value) : laidMetH Tryd.prog laidTab ((World.doorLaid Tryd.prog 400 os).forCall (fun _ _ => 0) ⟨#[], args, []⟩).memory :=
  laidMetH_of_parts3 (fuel := 8) (laidMet_of_run' 8 (by kernel_rfl) (by kernel_rfl)) (by kernel_rfl) (by kernel_rfl)

/-- What the condition gives the walks. -/
theorem of_laidT {W : World} (h : laidMetH Tryd.prog laidTab W) : Tab W.heap.size W := by
  rw [MakeChecks.laidMetH_plain _ _ _ (by kernel_rfl)] at h
  have h1 := laidMet.tail h
  have h2 := laidMet.tail h1
  have h3 : laidMet Tryd.prog [(tabName, Lib.tabData .u64 Lib.pow10Tab)] W := h2
  exact Lib.tabBelow_of_tabIs (Lib.tabIs_of_head gTab tTab Tryd.underlying95 Tryd.underlying55 cells55 cells95 h3)

end Go.Proofs.Qxb6613067aDoor
