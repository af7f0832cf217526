import Derived.Test.Qxb6613067aDoorSr
namespace Go.Proofs.Qxb6613067aDoor
open Go.RowKit

set_option maxHeartbeats 1000000 in
theorem bf_eof (kr ks kb pb po pl pc N R : Nat) (lb lr : Int) (et : TypeId) (ep : Value) (w : World)
    (hkr : w.heap[kr]? = some (.cells #[.slice (some ⟨kb, 0, none⟩) N N, .iface 36 (.pointer (some ⟨ks, 0, none⟩)), .int .i64 R, .int .i64 R, .nilIface, .int .i64 lb, .int .i64 lr] 75 (0, 0)))
    (hpl : 0 < pl) (_hpl2 : pl ≤ 2097152) (_hNpl : pl < N) (_hN : N ≤ 2097152)
    (hsr : ∀ V : World, Kept [kr] w V →
      Calls Tryd.prog 69 #[.pointer (some ⟨ks, 0, none⟩), .slice (some ⟨kb, 0, none⟩) N N] V fun e w' => e = .returned (.tuple #[.int .i64 0, .iface et ep]) ∧ w'.heap = V.heap ∧ Kept [] V w') :
    Calls Tryd.prog 80 #[.pointer (some ⟨kr, 0, none⟩), .slice (some ⟨pb, po, none⟩) pl pc] w fun e w' =>
      e = .returned (.tuple #[.int .i64 0, .iface et ep]) ∧
      w'.heap[kr]? = some (.cells #[.slice (some ⟨kb, 0, none⟩) N N, .iface 36 (.pointer (some ⟨ks, 0, none⟩)), .int .i64 0, .int .i64 0, .nilIface, .int .i64 lb, .int .i64 lr] 75 (0, 0)) ∧ Kept [kr] w w' := by
  have c0 : w.cell? ⟨kr, 0, none⟩ = some (.slice (some ⟨kb, 0, none⟩) N N) := by rw [Lib.cell_of_heap hkr]; rfl
  have c1 : w.cell? ⟨kr, 1, none⟩ = some (.iface 36 (.pointer (some ⟨ks, 0, none⟩))) := by rw [Lib.cell_of_heap hkr]; rfl
  have c2 : w.cell? ⟨kr, 2, none⟩ = some (.int .i64 R) := by rw [Lib.cell_of_heap hkr]; rfl
  have c3 : w.cell? ⟨kr, 3, none⟩ = some (.int .i64 R) := by rw [Lib.cell_of_heap hkr]; rfl
  have c4 : w.cell? ⟨kr, 4, none⟩ = some .nilIface := by rw [Lib.cell_of_heap hkr]; rfl
  have f2 : w.frozen? ⟨kr, 2, none⟩ = false := Lib.frozen_of_heap hkr 2
  have f3 : w.frozen? ⟨kr, 3, none⟩ = false := Lib.frozen_of_heap hkr 3
  have HS := hide hsr
  clear hsr
  have hpl0 : ((pl : Int) == 0) = false := beq_eq_false_iff_ne.2 (by omega)
  have hm := method_sr
  have hnl := nil_sr
  go_enter Tryd.func80, Tryd.ntmps80
  go_wp2
  go_quiet (fail)
  go_wp2_with fail
  have hkV : Kept [kr] w (((w.drewN nq).setCell ⟨kr, 2, none⟩ (.int .i64 0)).setCell ⟨kr, 3, none⟩ (.int .i64 0)) := (((Kept.refl _ _).drewN _).setCell (by simp) _).setCell (by simp) _
  have hkr1 := Lib.heap_setCell_same (i := 3) (Lib.heap_setCell_same (w := w.drewN nq) (i := 2) hkr (.int .i64 0)) (.int .i64 0)
  generalize ((w.drewN nq).setCell ⟨kr, 2, none⟩ (.int .i64 0)).setCell ⟨kr, 3, none⟩ (.int .i64 0) = V at *
  clear c0 c1 c2 c3 c4 f2 f3 hkr
  have c0 : V.cell? ⟨kr, 0, none⟩ = some (.slice (some ⟨kb, 0, none⟩) N N) := by rw [Lib.cell_of_heap hkr1]; rfl
  have c1 : V.cell? ⟨kr, 1, none⟩ = some (.iface 36 (.pointer (some ⟨ks, 0, none⟩))) := by rw [Lib.cell_of_heap hkr1]; rfl
  have c4V : V.cell? ⟨kr, 4, none⟩ = some .nilIface := by rw [Lib.cell_of_heap hkr1]; rfl
  go_region_held3 (fun w' => w'.cell? ⟨kr, 0, none⟩ = some (.slice (some ⟨kb, 0, none⟩) N N) ∧ w'.cell? ⟨kr, 1, none⟩ = some (.iface 36 (.pointer (some ⟨ks, 0, none⟩)))) (first | (go_keep; done) | (refine ⟨?_, ?_⟩ <;> first | exact hk2.cell (by assumption) (by simp) | exact cell_sc_off V2 _ _ _ _ _ (by decide) (hk2.cell (by assumption) (by simp))))
    (first | (go_at_call 69; refine (HS.out _ (by exact hkV.drew)).mono ?_; rintro e V2 ⟨rfl, hh2, hk2⟩; have hkr2 := hk2.at (by exact hkr1) (by simp); have c4 : V2.cell? ⟨kr, 4, none⟩ = some .nilIface := hk2.cell (by exact c4V) (by simp); have f4 : V2.frozen? ⟨kr, 4, none⟩ = false := Lib.frozen_of_heap hkr2 4))
  clear c0 c1 c4V
  go_wp2
  go_ret2
  exact ⟨rfl, Lib.heap_setCell_same (i := 4) (Lib.heap_setCell_same (i := 4) hkr2 _) _, ((hkV.drew.trans (hk2.mono (by simp))).setCell (by simp) _).setCell (by simp) _⟩

end Go.Proofs.Qxb6613067aDoor
