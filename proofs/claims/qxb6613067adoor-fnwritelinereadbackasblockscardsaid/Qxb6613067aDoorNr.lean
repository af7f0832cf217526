import Derived.Test.Qxb6613067aDoorRb
namespace Go.Proofs.Qxb6613067aDoor
open Go.RowKit

set_option maxHeartbeats 400000 in
theorem reset_any (kr kb ks N : Nat) (c0 c1 c2 c3 c4 c5 c6 : Value) (w : World) (hkr : w.heap[kr]? = some (.cells #[c0, c1, c2, c3, c4, c5, c6] 75 (0, 0))) :
    Calls Tryd.prog 44 #[.pointer (some ⟨kr, 0, none⟩), .slice (some ⟨kb, 0, none⟩) N N, .iface 36 (.pointer (some ⟨ks, 0, none⟩))] w fun e w' =>
      e = .returned (.tuple #[]) ∧ w'.heap[kr]? = some (.cells #[.slice (some ⟨kb, 0, none⟩) N N, .iface 36 (.pointer (some ⟨ks, 0, none⟩)), .int .i64 0, .int .i64 0, .nilIface, .int .i64 (-1), .int .i64 (-1)] 75 (0, 0)) ∧ Kept [kr] w w' := by
  have d0 : w.cell? ⟨kr, 0, none⟩ = some c0 := by rw [Lib.cell_of_heap hkr]; rfl
  have f0 : w.frozen? ⟨kr, 0, none⟩ = false := Lib.frozen_of_heap hkr 0
  have d1 : w.cell? ⟨kr, 1, none⟩ = some c1 := by rw [Lib.cell_of_heap hkr]; rfl
  have f1 : w.frozen? ⟨kr, 1, none⟩ = false := Lib.frozen_of_heap hkr 1
  have d2 : w.cell? ⟨kr, 2, none⟩ = some c2 := by rw [Lib.cell_of_heap hkr]; rfl
  have f2 : w.frozen? ⟨kr, 2, none⟩ = false := Lib.frozen_of_heap hkr 2
  have d3 : w.cell? ⟨kr, 3, none⟩ = some c3 := by rw [Lib.cell_of_heap hkr]; rfl
  have f3 : w.frozen? ⟨kr, 3, none⟩ = false := Lib.frozen_of_heap hkr 3
  have d4 : w.cell? ⟨kr, 4, none⟩ = some c4 := by rw [Lib.cell_of_heap hkr]; rfl
  have f4 : w.frozen? ⟨kr, 4, none⟩ = false := Lib.frozen_of_heap hkr 4
  have d5 : w.cell? ⟨kr, 5, none⟩ = some c5 := by rw [Lib.cell_of_heap hkr]; rfl
  have f5 : w.frozen? ⟨kr, 5, none⟩ = false := Lib.frozen_of_heap hkr 5
  have d6 : w.cell? ⟨kr, 6, none⟩ = some c6 := by rw [Lib.cell_of_heap hkr]; rfl
  have f6 : w.frozen? ⟨kr, 6, none⟩ = false := Lib.frozen_of_heap hkr 6
  go_enter Tryd.func44, Tryd.ntmps44
  go_wp2
  go_end0
  refine ⟨rfl, ?_, (((((((Kept.refl _ _).setCell (by simp) _).setCell (by simp) _).setCell (by simp) _).setCell (by simp) _).setCell (by simp) _).setCell (by simp) _).setCell (by simp) _⟩
  exact Lib.heap_setCell_same (i := 6) (Lib.heap_setCell_same (i := 5) (Lib.heap_setCell_same (i := 4) (Lib.heap_setCell_same (i := 3) (Lib.heap_setCell_same (i := 2) (Lib.heap_setCell_same (i := 1) (Lib.heap_setCell_same (i := 0) hkr _) _) _) _) _) _) _

end Go.Proofs.Qxb6613067aDoor
