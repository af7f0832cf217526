import Derived.Test.Qxb6613067aDoorSr
namespace Go.Proofs.Qxb6613067aDoor
open Go.RowKit

set_option maxHeartbeats 1000000 in
theorem br_buf (kr ks kb pb po pl pc N R W n : Nat) (lb lr x : Int) (cur pcur X : List Value) (w : World)
    (hkr : w.heap[kr]? = some (.cells #[.slice (some ⟨kb, 0, none⟩) N N, .iface 36 (.pointer (some ⟨ks, 0, none⟩)), .int .i64 R, .int .i64 W, .nilIface, .int .i64 lb, .int .i64 lr] 75 (0, 0)))
    (hkb : w.heap[kb]? = some (.cells cur.toArray 5 (0, 0))) (hN : N ≤ 2097152) (hWN : W ≤ N) (hRW : R < W) (hpl : 0 < pl) (hpl2 : pl ≤ 2097152)
    (hpb : w.heap[pb]? = some (.cells pcur.toArray 5 (0, 0))) (hn2 : n ≤ W - R)
    (hne1 : pb ≠ kr) (hne2 : pb ≠ kb) (hne3 : kr ≠ kb)
    (q : Nat) (hq : R + n = q + 1) (hx : cur[q]? = some (.int .u8 x)) (hx0 : 0 ≤ x) (hx1 : x < 256)
    (hcp : ∀ W' : World, W'.heap[pb]? = some (.cells pcur.toArray 5 (0, 0)) → W'.heap[kb]? = some (.cells cur.toArray 5 (0, 0)) → (Builtin.copy_ #[42, 42] 3 #[.slice (some ⟨pb, po, none⟩) pl pc, .slice (some ⟨kb, R, none⟩) (W - R) (N - R)]).run Tryd.prog W' = .ok (goInt n) (W'.setRow pb X.toArray)) :
    Calls Tryd.prog 80 #[.pointer (some ⟨kr, 0, none⟩), .slice (some ⟨pb, po, none⟩) pl pc] w fun e w' =>
      e = .returned (.tuple #[.int .i64 n, .nilIface]) ∧
      (∃ lb' lr', w'.heap[kr]? = some (.cells #[.slice (some ⟨kb, 0, none⟩) N N, .iface 36 (.pointer (some ⟨ks, 0, none⟩)), .int .i64 (R + n), .int .i64 W, .nilIface, .int .i64 lb', .int .i64 lr'] 75 (0, 0))) ∧
      w'.heap[pb]? = some (.cells X.toArray 5 (0, 0)) ∧ Kept [kr, pb] w w' := by
  have c0 : w.cell? ⟨kr, 0, none⟩ = some (.slice (some ⟨kb, 0, none⟩) N N) := by rw [Lib.cell_of_heap hkr]; rfl
  have c2 : w.cell? ⟨kr, 2, none⟩ = some (.int .i64 R) := by rw [Lib.cell_of_heap hkr]; rfl
  have c3 : w.cell? ⟨kr, 3, none⟩ = some (.int .i64 W) := by rw [Lib.cell_of_heap hkr]; rfl
  have HC := hide hcp
  clear hcp
  have hRWi : ((R : Int) == (W : Int)) = false := beq_eq_false_iff_ne.2 (by omega)
  have hpl0 : ((pl : Int) == 0) = false := beq_eq_false_iff_ne.2 (by omega)
  go_enter Tryd.func80, Tryd.ntmps80
  go_wp2
  go_quiet (fail)
  go_wp2
  have hk1 : Kept [kr, pb] w (w.drewN nq) := (Kept.refl _ _).drewN _
  have hkr1 : (w.drewN nq).heap[kr]? = _ := hkr
  have hkb1 : (w.drewN nq).heap[kb]? = _ := hkb
  have hpb1 : (w.drewN nq).heap[pb]? = _ := hpb
  generalize w.drewN nq = V at *
  clear c0 c2 c3 hkr hkb hpb
  have c0 : V.cell? ⟨kr, 0, none⟩ = some (.slice (some ⟨kb, 0, none⟩) N N) := by rw [Lib.cell_of_heap hkr1]; rfl
  have c2 : V.cell? ⟨kr, 2, none⟩ = some (.int .i64 R) := by rw [Lib.cell_of_heap hkr1]; rfl
  have c3 : V.cell? ⟨kr, 3, none⟩ = some (.int .i64 W) := by rw [Lib.cell_of_heap hkr1]; rfl
  have hNR : ¬ N = R := by omega
  have b0 : (0 : Int) ≤ (R : Int) := by omega
  have b1 : (R : Int) ≤ (W : Int) := by omega
  have b2 : (W : Int) ≤ (N : Int) := by omega
  go_region_held3 (fun w' => w'.cell? ⟨kr, 0, none⟩ = some (.slice (some ⟨kb, 0, none⟩) N N) ∧ w'.cell? ⟨kr, 2, none⟩ = some (.int .i64 R) ∧ w'.cell? ⟨kr, 3, none⟩ = some (.int .i64 W)) (first | go_keep | (simp only [cell_setRow_blk _ _ _ _ _ (Ne.symm hne1)]; go_keep))
    ((refine step_copy_run (by rfl) (.tmp 109) (.tmp 122) 42 42 (by rfl) _ _ _ _ (by rfl) (by rfl) (HC.out _ (by exact hpb1) (by exact hkb1)) ?_))
  have hk2 : Kept [kr, pb] w (V.drew.setRow pb X.toArray) := hk1.drew.setRow (by simp) _
  have hkr2 := (setRow_other V.drew pb kr X.toArray (Ne.symm hne1)).trans hkr1
  have hkb2 := (setRow_other V.drew pb kb X.toArray (Ne.symm hne2)).trans hkb1
  have hpb2 : (V.drew.setRow pb X.toArray).heap[pb]? = _ := setRow_heap V.drew pb _ X.toArray _ _ hpb1
  generalize V.drew.setRow pb X.toArray = U at *
  clear c0 c2 c3 hkr1 hkb1 hpb1 hk1 HC
  have c0 : U.cell? ⟨kr, 0, none⟩ = some (.slice (some ⟨kb, 0, none⟩) N N) := by rw [Lib.cell_of_heap hkr2]; rfl
  have c2 : U.cell? ⟨kr, 2, none⟩ = some (.int .i64 R) := by rw [Lib.cell_of_heap hkr2]; rfl
  have c5 : U.cell? ⟨kr, 5, none⟩ = some (.int .i64 lb) := by rw [Lib.cell_of_heap hkr2]; rfl
  have c6 : U.cell? ⟨kr, 6, none⟩ = some (.int .i64 lr) := by rw [Lib.cell_of_heap hkr2]; rfl
  have f2 : U.frozen? ⟨kr, 2, none⟩ = false := Lib.frozen_of_heap hkr2 2
  have f5 : U.frozen? ⟨kr, 5, none⟩ = false := Lib.frozen_of_heap hkr2 5
  have f6 : U.frozen? ⟨kr, 6, none⟩ = false := Lib.frozen_of_heap hkr2 6
  go_wp2
  have hk3 : Kept [kr, pb] w (U.setCell ⟨kr, 2, none⟩ (.int .i64 ((R : Int) + (n : Int)))) := hk2.setCell (by simp) _
  have hkr3 := Lib.heap_setCell_same (i := 2) hkr2 (.int .i64 ((R : Int) + (n : Int)))
  have hkb3 := (Below.heap_setCell U ⟨kr, 2, none⟩ (.int .i64 ((R : Int) + (n : Int))) kb (Ne.symm hne3)).trans hkb2
  have hpb3 := (Below.heap_setCell U ⟨kr, 2, none⟩ (.int .i64 ((R : Int) + (n : Int))) pb hne1).trans hpb2
  generalize U.setCell ⟨kr, 2, none⟩ (.int .i64 ((R : Int) + (n : Int))) = T at *
  clear c0 c2 c5 c6 f2 f5 f6 hkr2 hkb2 hpb2 hk2
  have hqi : (R : Int) + (n : Int) = (q : Int) + 1 := by omega
  have c0 : T.cell? ⟨kr, 0, none⟩ = some (.slice (some ⟨kb, 0, none⟩) N N) := by rw [Lib.cell_of_heap hkr3]; rfl
  have c2 : T.cell? ⟨kr, 2, none⟩ = some (.int .i64 ((q : Int) + 1)) := by rw [Lib.cell_of_heap hkr3, ← hqi]; rfl
  have c5 : T.cell? ⟨kr, 5, none⟩ = some (.int .i64 lb) := by rw [Lib.cell_of_heap hkr3]; rfl
  have c6 : T.cell? ⟨kr, 6, none⟩ = some (.int .i64 lr) := by rw [Lib.cell_of_heap hkr3]; rfl
  have f5 : T.frozen? ⟨kr, 5, none⟩ = false := Lib.frozen_of_heap hkr3 5
  have f6 : T.frozen? ⟨kr, 6, none⟩ = false := Lib.frozen_of_heap hkr3 6
  have cb : T.cell? ⟨kb, q, none⟩ = some (.int .u8 x) := by rw [Lib.cell_of_heap hkb3]; simpa using hx
  have hbq0 : (0 : Int) ≤ (q : Int) := by omega
  have hbq1 : (q : Int) < (N : Int) := by omega
  have hwq : IntKind.i64.wrap (q : Int) = (q : Int) := wrap_small _ (by omega) (by omega)
  have hwq1 : IntKind.i64.wrap ((q : Int) + 1 - 1) = (q : Int) := by rw [show (q : Int) + 1 - 1 = (q : Int) from by omega]; exact hwq
  clear hqi hq hx
  go_region_held3 (fun w' => w'.cell? ⟨kr, 0, none⟩ = some (.slice (some ⟨kb, 0, none⟩) N N) ∧ w'.cell? ⟨kr, 2, none⟩ = some (.int .i64 ((q : Int) + 1)) ∧ w'.cell? ⟨kb, q, none⟩ = some (.int .u8 x)) (first | (go_keep; done) | (refine ⟨?_, ?_, ?_⟩ <;> first | exact kd (cell_sc_off T _ _ _ _ _ (by decide) (by assumption)) | exact kd (cell_sc_blk T _ _ _ _ _ _ hne3 (by assumption))))
    (fail)
  go_wp2
  go_ret2
  refine ⟨rfl, ⟨_, _, Lib.heap_setCell_same (i := 6) (Lib.heap_setCell_same (i := 5) hkr3 _) _⟩, ?_, ((hk3.setCell (by simp) _).setCell (by simp) _).drew⟩
  exact (Below.heap_setCell _ ⟨kr, 6, none⟩ _ pb hne1).trans ((Below.heap_setCell _ ⟨kr, 5, none⟩ _ pb hne1).trans hpb3)

end Go.Proofs.Qxb6613067aDoor
