import Derived.Test.Qxb6613067aDoorSr
namespace Go.Proofs.Qxb6613067aDoor
open Go.RowKit

set_option maxHeartbeats 1500000 in
theorem bf_read (kr ks kb pb po pl pc N R i m q : Nat) (lb lr pr x : Int) (s : ByteArray) (cur Y pcur X : List Value) (w : World)
    (hkr : w.heap[kr]? = some (.cells #[.slice (some ⟨kb, 0, none⟩) N N, .iface 36 (.pointer (some ⟨ks, 0, none⟩)), .int .i64 R, .int .i64 R, .nilIface, .int .i64 lb, .int .i64 lr] 75 (0, 0)))
    (hks : w.heap[ks]? = some (.cells #[.string s, .int .i64 i, .int .i64 pr] 70 (0, 0)))
    (hkb : w.heap[kb]? = some (.cells cur.toArray 5 (0, 0)))
    (hpb : w.heap[pb]? = some (.cells pcur.toArray 5 (0, 0)))
    (hpl : 0 < pl) (_hpl2 : pl ≤ 2097152) (_hNpl : pl < N) (_hN : N ≤ 2097152) (hm0 : 1 ≤ m) (hmN : m ≤ N) (hqm : q + 1 ≤ m)
    (hne1 : pb ≠ kr) (hne2 : pb ≠ kb) (hne3 : kr ≠ kb) (hne4 : pb ≠ ks) (hne5 : kr ≠ ks)
    (hx : Y[q]? = some (.int .u8 x)) (hx0 : 0 ≤ x) (hx1 : x < 256)
    (hsr : ∀ V : World, V.heap[ks]? = some (.cells #[.string s, .int .i64 i, .int .i64 pr] 70 (0, 0)) → V.heap[kb]? = some (.cells cur.toArray 5 (0, 0)) →
      Calls Tryd.prog 69 #[.pointer (some ⟨ks, 0, none⟩), .slice (some ⟨kb, 0, none⟩) N N] V fun e w' =>
      e = .returned (.tuple #[.int .i64 m, .nilIface]) ∧
      w'.heap[ks]? = some (.cells #[.string s, .int .i64 (i + m), .int .i64 (-1)] 70 (0, 0)) ∧
      w'.heap[kb]? = some (.cells Y.toArray 5 (0, 0)) ∧ Kept [ks, kb] V w')
    (hcp : ∀ W' : World, W'.heap[pb]? = some (.cells pcur.toArray 5 (0, 0)) → W'.heap[kb]? = some (.cells Y.toArray 5 (0, 0)) → (Builtin.copy_ #[42, 42] 3 #[.slice (some ⟨pb, po, none⟩) pl pc, .slice (some ⟨kb, 0, none⟩) m N]).run Tryd.prog W' = .ok (goInt ((q : Int) + 1)) (W'.setRow pb X.toArray)) :
    Calls Tryd.prog 80 #[.pointer (some ⟨kr, 0, none⟩), .slice (some ⟨pb, po, none⟩) pl pc] w fun e w' =>
      e = .returned (.tuple #[.int .i64 ((q : Int) + 1), .nilIface]) ∧
      (∃ lb' lr', w'.heap[kr]? = some (.cells #[.slice (some ⟨kb, 0, none⟩) N N, .iface 36 (.pointer (some ⟨ks, 0, none⟩)), .int .i64 ((q : Int) + 1), .int .i64 m, .nilIface, .int .i64 lb', .int .i64 lr'] 75 (0, 0))) ∧
      w'.heap[ks]? = some (.cells #[.string s, .int .i64 (i + m), .int .i64 (-1)] 70 (0, 0)) ∧
      w'.heap[kb]? = some (.cells Y.toArray 5 (0, 0)) ∧
      w'.heap[pb]? = some (.cells X.toArray 5 (0, 0)) ∧ Kept [kr, ks, kb, pb] w w' := by
  have c0 : w.cell? ⟨kr, 0, none⟩ = some (.slice (some ⟨kb, 0, none⟩) N N) := by rw [Lib.cell_of_heap hkr]; rfl
  have c1 : w.cell? ⟨kr, 1, none⟩ = some (.iface 36 (.pointer (some ⟨ks, 0, none⟩))) := by rw [Lib.cell_of_heap hkr]; rfl
  have c2 : w.cell? ⟨kr, 2, none⟩ = some (.int .i64 R) := by rw [Lib.cell_of_heap hkr]; rfl
  have c3 : w.cell? ⟨kr, 3, none⟩ = some (.int .i64 R) := by rw [Lib.cell_of_heap hkr]; rfl
  have c4 : w.cell? ⟨kr, 4, none⟩ = some .nilIface := by rw [Lib.cell_of_heap hkr]; rfl
  have f2 : w.frozen? ⟨kr, 2, none⟩ = false := Lib.frozen_of_heap hkr 2
  have f3 : w.frozen? ⟨kr, 3, none⟩ = false := Lib.frozen_of_heap hkr 3
  have HS := hide hsr
  have HC := hide hcp
  have HX := hide hx
  clear hsr hcp hx
  have hpl0 : ((pl : Int) == 0) = false := beq_eq_false_iff_ne.2 (by omega)
  have hm1 : ((m : Int) == 0) = false := beq_eq_false_iff_ne.2 (by omega)
  have hm := method_sr
  have hnl := nil_sr
  go_enter Tryd.func80, Tryd.ntmps80
  go_wp2
  go_quiet (fail)
  go_wp2_with fail
  have hkV : Kept [kr, ks, kb, pb] w (((w.drewN nq).setCell ⟨kr, 2, none⟩ (.int .i64 0)).setCell ⟨kr, 3, none⟩ (.int .i64 0)) := (((Kept.refl _ _).drewN _).setCell (by simp) _).setCell (by simp) _
  have hkr1 := Lib.heap_setCell_same (i := 3) (Lib.heap_setCell_same (w := w.drewN nq) (i := 2) hkr (.int .i64 0)) (.int .i64 0)
  have hks1 := heap_sc (b := kr) (i := 3) (.int .i64 0) (Ne.symm hne5) (heap_sc (w := w.drewN nq) (b := kr) (i := 2) (.int .i64 0) (Ne.symm hne5) hks)
  have hkb1 := heap_sc (b := kr) (i := 3) (.int .i64 0) (Ne.symm hne3) (heap_sc (w := w.drewN nq) (b := kr) (i := 2) (.int .i64 0) (Ne.symm hne3) hkb)
  have hpb1 := heap_sc (b := kr) (i := 3) (.int .i64 0) hne1 (heap_sc (w := w.drewN nq) (b := kr) (i := 2) (.int .i64 0) hne1 hpb)
  generalize ((w.drewN nq).setCell ⟨kr, 2, none⟩ (.int .i64 0)).setCell ⟨kr, 3, none⟩ (.int .i64 0) = V at *
  clear c0 c1 c2 c3 c4 f2 f3 hkr hks hkb hpb
  have c0 : V.cell? ⟨kr, 0, none⟩ = some (.slice (some ⟨kb, 0, none⟩) N N) := by rw [Lib.cell_of_heap hkr1]; rfl
  have c1 : V.cell? ⟨kr, 1, none⟩ = some (.iface 36 (.pointer (some ⟨ks, 0, none⟩))) := by rw [Lib.cell_of_heap hkr1]; rfl
  have c4V : V.cell? ⟨kr, 4, none⟩ = some .nilIface := by rw [Lib.cell_of_heap hkr1]; rfl
  have hnS : kr ∉ [ks, kb] := by simp [hne5, hne3]
  go_region_held3 (fun w' => w'.cell? ⟨kr, 0, none⟩ = some (.slice (some ⟨kb, 0, none⟩) N N) ∧ w'.cell? ⟨kr, 1, none⟩ = some (.iface 36 (.pointer (some ⟨ks, 0, none⟩)))) (first | (go_keep; done) | (refine ⟨?_, ?_⟩ <;> first | exact hk2.cell (by assumption) (by exact hnS) | exact cell_sc_off V2 _ _ _ _ _ (by decide) (hk2.cell (by assumption) (by exact hnS))))
    (first | (go_at_call 69; refine (HS.out _ (by exact hks1) (by exact hkb1)).mono ?_; rintro e V2 ⟨rfl, hks2, hkb2, hk2⟩; have hkr2 := hk2.at (by exact hkr1) hnS; have c4 : V2.cell? ⟨kr, 4, none⟩ = some .nilIface := hk2.cell (by exact c4V) (by exact hnS); have f4 : V2.frozen? ⟨kr, 4, none⟩ = false := Lib.frozen_of_heap hkr2 4))
  clear c0 c1 c4V
  have hpb2 := hk2.at (k := pb) (by exact hpb1) (by simp [hne4, hne2])
  have c3 : V2.cell? ⟨kr, 3, none⟩ = some (.int .i64 0) := by rw [Lib.cell_of_heap hkr2]; rfl
  have f3 : V2.frozen? ⟨kr, 3, none⟩ = false := Lib.frozen_of_heap hkr2 3
  have hkW : Kept [kr, ks, kb, pb] w V2 := hkV.drew.trans (hk2.mono (fun k hk => by simp at hk ⊢; omega))
  clear hkV hk2 hkr1 hks1 hkb1 hpb1
  go_wp2
  have hk1 : Kept [kr, ks, kb, pb] w ((V2.setCell ⟨kr, 4, none⟩ .nilIface).setCell ⟨kr, 3, none⟩ (.int .i64 m)) := (hkW.setCell (by simp) _).setCell (by simp) _
  have hkr1 := Lib.heap_setCell_same (i := 3) (Lib.heap_setCell_same (i := 4) hkr2 .nilIface) (.int .i64 m)
  have hks1 := heap_sc (b := kr) (i := 3) (.int .i64 m) (Ne.symm hne5) (heap_sc (b := kr) (i := 4) .nilIface (Ne.symm hne5) hks2)
  have hkb1 := heap_sc (b := kr) (i := 3) (.int .i64 m) (Ne.symm hne3) (heap_sc (b := kr) (i := 4) .nilIface (Ne.symm hne3) hkb2)
  have hpb1 := heap_sc (b := kr) (i := 3) (.int .i64 m) hne1 (heap_sc (b := kr) (i := 4) .nilIface hne1 hpb2)
  generalize (V2.setCell ⟨kr, 4, none⟩ .nilIface).setCell ⟨kr, 3, none⟩ (.int .i64 m) = V3 at *
  clear c3 c4 f3 f4 hkr2 hks2 hkb2 hpb2 hkW HS
  have c0 : V3.cell? ⟨kr, 0, none⟩ = some (.slice (some ⟨kb, 0, none⟩) N N) := by rw [Lib.cell_of_heap hkr1]; rfl
  have c2 : V3.cell? ⟨kr, 2, none⟩ = some (.int .i64 0) := by rw [Lib.cell_of_heap hkr1]; rfl
  have c3 : V3.cell? ⟨kr, 3, none⟩ = some (.int .i64 m) := by rw [Lib.cell_of_heap hkr1]; rfl
  have hNR : ¬ N = 0 := by omega
  have b1 : (0 : Int) ≤ (m : Int) := by omega
  have b2 : (m : Int) ≤ (N : Int) := by omega
  go_region_held3 (fun w' => w'.cell? ⟨kr, 0, none⟩ = some (.slice (some ⟨kb, 0, none⟩) N N) ∧ w'.cell? ⟨kr, 2, none⟩ = some (.int .i64 0) ∧ w'.cell? ⟨kr, 3, none⟩ = some (.int .i64 m)) (first | (go_keep; done) | (simp only [cell_setRow_blk _ _ _ _ _ (Ne.symm hne1)]; go_keep))
    ((refine step_copy_run (by rfl) (.tmp 109) (.tmp 122) 42 42 (by rfl) _ _ _ _ (by rfl) (by rfl) (HC.out _ (by exact hpb1) (by exact hkb1)) ?_))
  have hk2 : Kept [kr, ks, kb, pb] w (V3.drew.setRow pb X.toArray) := hk1.drew.setRow (by simp) _
  have hkr2 := (setRow_other V3.drew pb kr X.toArray (Ne.symm hne1)).trans hkr1
  have hks2 := (setRow_other V3.drew pb ks X.toArray (Ne.symm hne4)).trans hks1
  have hkb2 := (setRow_other V3.drew pb kb X.toArray (Ne.symm hne2)).trans hkb1
  have hpb2 := setRow_heap V3.drew pb _ X.toArray _ _ hpb1
  generalize V3.drew.setRow pb X.toArray = U at *
  clear c0 c2 c3 hkr1 hks1 hkb1 hpb1 hk1 HC
  have c2 : U.cell? ⟨kr, 2, none⟩ = some (.int .i64 0) := by rw [Lib.cell_of_heap hkr2]; rfl
  have f2 : U.frozen? ⟨kr, 2, none⟩ = false := Lib.frozen_of_heap hkr2 2
  go_wp2
  have hk3 : Kept [kr, ks, kb, pb] w (U.setCell ⟨kr, 2, none⟩ (.int .i64 ((q : Int) + 1))) := hk2.setCell (by simp) _
  have hkr3 := Lib.heap_setCell_same (i := 2) hkr2 (.int .i64 ((q : Int) + 1))
  have hks3 := heap_sc (b := kr) (i := 2) (.int .i64 ((q : Int) + 1)) (Ne.symm hne5) hks2
  have hkb3 := heap_sc (b := kr) (i := 2) (.int .i64 ((q : Int) + 1)) (Ne.symm hne3) hkb2
  have hpb3 := heap_sc (b := kr) (i := 2) (.int .i64 ((q : Int) + 1)) hne1 hpb2
  generalize U.setCell ⟨kr, 2, none⟩ (.int .i64 ((q : Int) + 1)) = T at *
  clear c2 f2 hkr2 hks2 hkb2 hpb2 hk2
  have c0 : T.cell? ⟨kr, 0, none⟩ = some (.slice (some ⟨kb, 0, none⟩) N N) := by rw [Lib.cell_of_heap hkr3]; rfl
  have c2 : T.cell? ⟨kr, 2, none⟩ = some (.int .i64 ((q : Int) + 1)) := by rw [Lib.cell_of_heap hkr3]; rfl
  have c5 : T.cell? ⟨kr, 5, none⟩ = some (.int .i64 lb) := by rw [Lib.cell_of_heap hkr3]; rfl
  have c6 : T.cell? ⟨kr, 6, none⟩ = some (.int .i64 lr) := by rw [Lib.cell_of_heap hkr3]; rfl
  have f5 : T.frozen? ⟨kr, 5, none⟩ = false := Lib.frozen_of_heap hkr3 5
  have f6 : T.frozen? ⟨kr, 6, none⟩ = false := Lib.frozen_of_heap hkr3 6
  have cb : T.cell? ⟨kb, q, none⟩ = some (.int .u8 x) := by rw [Lib.cell_of_heap hkb3]; simpa using HX.out
  have hbq0 : (0 : Int) ≤ (q : Int) := by omega
  have hbq1 : (q : Int) < (N : Int) := by omega
  have hwq : IntKind.i64.wrap (q : Int) = (q : Int) := wrap_small _ (by omega) (by omega)
  go_region_held3 (fun w' => w'.cell? ⟨kr, 0, none⟩ = some (.slice (some ⟨kb, 0, none⟩) N N) ∧ w'.cell? ⟨kr, 2, none⟩ = some (.int .i64 ((q : Int) + 1)) ∧ w'.cell? ⟨kb, q, none⟩ = some (.int .u8 x)) (first | (go_keep; done) | (refine ⟨?_, ?_, ?_⟩ <;> first | exact kd (cell_sc_off T _ _ _ _ _ (by decide) (by assumption)) | exact kd (cell_sc_blk T _ _ _ _ _ _ hne3 (by assumption))))
    (fail)
  go_wp2
  go_ret2
  refine ⟨rfl, ⟨_, _, Lib.heap_setCell_same (i := 6) (Lib.heap_setCell_same (i := 5) hkr3 _) _⟩, ?_, ?_, ?_, ((hk3.setCell (by simp) _).setCell (by simp) _).drew⟩
  · exact heap_sc _ (Ne.symm hne5) (heap_sc _ (Ne.symm hne5) hks3)
  · exact heap_sc _ (Ne.symm hne3) (heap_sc _ (Ne.symm hne3) hkb3)
  · exact heap_sc _ hne1 (heap_sc _ hne1 hpb3)

end Go.Proofs.Qxb6613067aDoor
