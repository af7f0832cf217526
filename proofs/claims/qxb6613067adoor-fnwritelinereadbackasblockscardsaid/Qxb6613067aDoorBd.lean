import Derived.Test.Qxb6613067aDoorSr
namespace Go.Proofs.Qxb6613067aDoor
open Go.RowKit

set_option maxHeartbeats 1000000 in
theorem bd_read (kr ks kb pb po pl pc N R i q : Nat) (lb lr pr x : Int) (s : ByteArray) (pcur X : List Value) (w : World)
    (hkr : w.heap[kr]? = some (.cells #[.slice (some ⟨kb, 0, none⟩) N N, .iface 36 (.pointer (some ⟨ks, 0, none⟩)), .int .i64 R, .int .i64 R, .nilIface, .int .i64 lb, .int .i64 lr] 75 (0, 0)))
    (hks : w.heap[ks]? = some (.cells #[.string s, .int .i64 i, .int .i64 pr] 70 (0, 0))) (hpl : 0 < pl) (hpl2 : pl ≤ 2097152) (hNpl : N ≤ pl)
    (hpb : w.heap[pb]? = some (.cells pcur.toArray 5 (0, 0))) 
    (hne1 : pb ≠ kr) (hne3 : kr ≠ ks) (hnpl : q + 1 ≤ pl)
    (hx : X[po + q]? = some (.int .u8 x)) (hx0 : 0 ≤ x) (hx1 : x < 256)
    (hsr : ∀ V : World, V.heap[ks]? = some (.cells #[.string s, .int .i64 i, .int .i64 pr] 70 (0, 0)) → V.heap[pb]? = some (.cells pcur.toArray 5 (0, 0)) → 
      Calls Tryd.prog 69 #[.pointer (some ⟨ks, 0, none⟩), .slice (some ⟨pb, po, none⟩) pl pc] V fun e w' =>
      e = .returned (.tuple #[.int .i64 ((q : Int) + 1), .nilIface]) ∧
      w'.heap[ks]? = some (.cells #[.string s, .int .i64 (i + ((q : Int) + 1)), .int .i64 (-1)] 70 (0, 0)) ∧
      w'.heap[pb]? = some (.cells X.toArray 5 (0, 0)) ∧ Kept [ks, pb] V w') :
    Calls Tryd.prog 80 #[.pointer (some ⟨kr, 0, none⟩), .slice (some ⟨pb, po, none⟩) pl pc] w fun e w' =>
      e = .returned (.tuple #[.int .i64 ((q : Int) + 1), .nilIface]) ∧
      (∃ lb' lr', w'.heap[kr]? = some (.cells #[.slice (some ⟨kb, 0, none⟩) N N, .iface 36 (.pointer (some ⟨ks, 0, none⟩)), .int .i64 R, .int .i64 R, .nilIface, .int .i64 lb', .int .i64 lr'] 75 (0, 0))) ∧
      w'.heap[ks]? = some (.cells #[.string s, .int .i64 (i + ((q : Int) + 1)), .int .i64 (-1)] 70 (0, 0)) ∧
      w'.heap[pb]? = some (.cells X.toArray 5 (0, 0)) ∧ Kept [kr, ks, pb] w w' := by
  have c0 : w.cell? ⟨kr, 0, none⟩ = some (.slice (some ⟨kb, 0, none⟩) N N) := by rw [Lib.cell_of_heap hkr]; rfl
  have c1 : w.cell? ⟨kr, 1, none⟩ = some (.iface 36 (.pointer (some ⟨ks, 0, none⟩))) := by rw [Lib.cell_of_heap hkr]; rfl
  have c2 : w.cell? ⟨kr, 2, none⟩ = some (.int .i64 R) := by rw [Lib.cell_of_heap hkr]; rfl
  have c3 : w.cell? ⟨kr, 3, none⟩ = some (.int .i64 R) := by rw [Lib.cell_of_heap hkr]; rfl
  have c4 : w.cell? ⟨kr, 4, none⟩ = some .nilIface := by rw [Lib.cell_of_heap hkr]; rfl
  have HS := hide hsr
  clear hsr
  have hpl0 : ((pl : Int) == 0) = false := beq_eq_false_iff_ne.2 (by omega)
  have hm := method_sr
  have hnl := nil_sr
  go_enter Tryd.func80, Tryd.ntmps80
  go_wp2
  go_quiet (fail)
  go_wp2_with fail
  refine (HS.out _ (by exact hks) (by exact hpb)).mono ?_
  rintro e V ⟨rfl, hks1, hpb1, hk1⟩
  have hk2 : Kept [kr, ks, pb] w V := ((Kept.refl _ _).drewN _).trans (hk1.mono (fun k hk => by simp at hk ⊢; omega))
  have hkr1 : V.heap[kr]? = _ := hk1.at (k := kr) hkr (by simp [hne3, Ne.symm hne1])
  clear c0 c1 c2 c3 c4 hkr hks hpb hk1 HS
  have c4 : V.cell? ⟨kr, 4, none⟩ = some .nilIface := by rw [Lib.cell_of_heap hkr1]; rfl
  have c5 : V.cell? ⟨kr, 5, none⟩ = some (.int .i64 lb) := by rw [Lib.cell_of_heap hkr1]; rfl
  have c6 : V.cell? ⟨kr, 6, none⟩ = some (.int .i64 lr) := by rw [Lib.cell_of_heap hkr1]; rfl
  have f4 : V.frozen? ⟨kr, 4, none⟩ = false := Lib.frozen_of_heap hkr1 4
  have f5 : V.frozen? ⟨kr, 5, none⟩ = false := Lib.frozen_of_heap hkr1 5
  have f6 : V.frozen? ⟨kr, 6, none⟩ = false := Lib.frozen_of_heap hkr1 6
  have cp : V.cell? ⟨pb, po + q, none⟩ = some (.int .u8 x) := by rw [Lib.cell_of_heap hpb1]; simpa using hx
  clear hx
  have hq0 : (0 : Int) ≤ (q : Int) := by omega
  have hq1 : (q : Int) < (pl : Int) := by omega
  have hne : kr ≠ pb := Ne.symm hne1
  go_wp2
  go_ret2
  refine ⟨rfl, ⟨_, _, Lib.heap_setCell_same (i := 4) (Lib.heap_setCell_same (i := 6) (Lib.heap_setCell_same (i := 5) (Lib.heap_setCell_same (i := 4) hkr1 _) _) _) _⟩, ?_, ?_, (((hk2.setCell (by simp) _).setCell (by simp) _).setCell (by simp) _).setCell (by simp) _⟩
  · exact heap_sc _ (Ne.symm hne3) (heap_sc _ (Ne.symm hne3) (heap_sc _ (Ne.symm hne3) (heap_sc _ (Ne.symm hne3) hks1)))
  · exact heap_sc _ hne1 (heap_sc _ hne1 (heap_sc _ hne1 (heap_sc _ hne1 hpb1)))

set_option maxHeartbeats 1000000 in
theorem bd_eof (kr ks kb pb po pl pc N R : Nat) (lb lr : Int) (et : TypeId) (ep : Value) (w : World)
    (hkr : w.heap[kr]? = some (.cells #[.slice (some ⟨kb, 0, none⟩) N N, .iface 36 (.pointer (some ⟨ks, 0, none⟩)), .int .i64 R, .int .i64 R, .nilIface, .int .i64 lb, .int .i64 lr] 75 (0, 0)))
    (hpl : 0 < pl) (_hpl2 : pl ≤ 2097152) (_hNpl : N ≤ pl)
    (hsr : ∀ V : World, V.heap = w.heap →
      Calls Tryd.prog 69 #[.pointer (some ⟨ks, 0, none⟩), .slice (some ⟨pb, po, none⟩) pl pc] V fun e w' => e = .returned (.tuple #[.int .i64 0, .iface et ep]) ∧ w'.heap = V.heap ∧ Kept [] V w') :
    Calls Tryd.prog 80 #[.pointer (some ⟨kr, 0, none⟩), .slice (some ⟨pb, po, none⟩) pl pc] w fun e w' =>
      e = .returned (.tuple #[.int .i64 0, .iface et ep]) ∧
      w'.heap[kr]? = some (.cells #[.slice (some ⟨kb, 0, none⟩) N N, .iface 36 (.pointer (some ⟨ks, 0, none⟩)), .int .i64 R, .int .i64 R, .nilIface, .int .i64 lb, .int .i64 lr] 75 (0, 0)) ∧ Kept [kr] w w' := by
  have c0 : w.cell? ⟨kr, 0, none⟩ = some (.slice (some ⟨kb, 0, none⟩) N N) := by rw [Lib.cell_of_heap hkr]; rfl
  have c1 : w.cell? ⟨kr, 1, none⟩ = some (.iface 36 (.pointer (some ⟨ks, 0, none⟩))) := by rw [Lib.cell_of_heap hkr]; rfl
  have c2 : w.cell? ⟨kr, 2, none⟩ = some (.int .i64 R) := by rw [Lib.cell_of_heap hkr]; rfl
  have c3 : w.cell? ⟨kr, 3, none⟩ = some (.int .i64 R) := by rw [Lib.cell_of_heap hkr]; rfl
  have c4 : w.cell? ⟨kr, 4, none⟩ = some .nilIface := by rw [Lib.cell_of_heap hkr]; rfl
  have HS := hide hsr
  clear hsr
  have hpl0 : ((pl : Int) == 0) = false := beq_eq_false_iff_ne.2 (by omega)
  have hm := method_sr
  have hnl := nil_sr
  go_enter Tryd.func80, Tryd.ntmps80
  go_wp2
  go_quiet (fail)
  go_wp2_with fail
  refine (HS.out _ (by rfl)).mono ?_
  rintro e V ⟨rfl, hh, hk1⟩
  have hk2 : Kept [kr] w V := ((Kept.refl _ _).drewN _).trans (hk1.mono (by simp))
  have hkr1 : V.heap[kr]? = _ := hk1.at (k := kr) hkr (by simp)
  clear c0 c1 c2 c3 c4 hkr hk1 HS hh
  have c4 : V.cell? ⟨kr, 4, none⟩ = some .nilIface := by rw [Lib.cell_of_heap hkr1]; rfl
  have f4 : V.frozen? ⟨kr, 4, none⟩ = false := Lib.frozen_of_heap hkr1 4
  go_wp2
  go_ret2
  exact ⟨rfl, Lib.heap_setCell_same (i := 4) (Lib.heap_setCell_same (i := 4) hkr1 _) _, (hk2.setCell (by simp) _).setCell (by simp) _⟩

end Go.Proofs.Qxb6613067aDoor
