import Derived.Test.Qxb6613067aDoorMem
import Derived.BigQuiet
import Derived.Deep.QuietTactic
import Derived.Deep.RegionHeld3
import Derived.Deep.RegionWith
namespace Go.Proofs.Qxb6613067aDoor
open Go.RowKit

theorem info5 : (Tryd.prog.info? 5).map (·.size) = some 1 := by kernel_rfl

theorem method_sr (a : Addr) (w : World) : (method 234 36 (.pointer (some a)) "Read").run Tryd.prog w = .ok (69, .pointer (some a)) w := by kernel_rfl
theorem nil_sr (a : Addr) (w : World) : (nilAhead 234 36 (.pointer (some a)) "Read").run Tryd.prog w = .ok (some false) w := by kernel_rfl
theorem method_br (a : Addr) (w : World) : (method 234 59 (.pointer (some a)) "Read").run Tryd.prog w = .ok (80, .pointer (some a)) w := by kernel_rfl
theorem nil_br (a : Addr) (w : World) : (nilAhead 234 59 (.pointer (some a)) "Read").run Tryd.prog w = .ok (some false) w := by kernel_rfl

/-- A builtin copy, its run known, as one step of a region that draws. -/
theorem step_copy_run {P : Program} {ops : Array Oper} {o : Oper} {a : Act} {w : World} {K : Act → World → Prop} {Q : Exit → Act → World → Prop} {E : Prop} (hgd : o.guard = none) (d s : Operand) (dT sT : TypeId)
    (ho : o.op = .call { callee := .builtin .copy, args := #[d, s], argTypes := #[dT, sT] }) (vd vs v : Value) (w' : World) (hd : a.eval d = vd) (hs : a.eval s = vs)
    (hrun : (Builtin.copy_ #[dT, sT] o.type #[vd, vs]).run P w = .ok v w') (h : K (a.put o.dst v) w') :
    if Region.wanted o (yielded ops a.tmps) = true then Oper.wp P o a w K Q else E := by
  have hw : Region.wanted o (yielded ops a.tmps) = true := by simp [Region.wanted, hgd]
  rw [if_pos hw]
  unfold Oper.wp
  simp [execOp, ho, resolve, invoke, builtin, hd, hs, hrun, Result.andThen]
  exact h

set_option maxHeartbeats 400000 in
theorem sr_eof (s : ByteArray) (i ks pb po pl pc : Nat) (pr : Int) (et : TypeId) (ep : Value) (w : World)
    (hks : w.heap[ks]? = some (.cells #[.string s, .int .i64 i, .int .i64 pr] 70 (0, 0))) (hi : s.size ≤ i) (_hs : s.size ≤ 2097152) (_hi2 : i ≤ 2097152)
    (heof : w.cell? ⟨1, 0, none⟩ = some (.iface et ep)) :
    Calls Tryd.prog 69 #[.pointer (some ⟨ks, 0, none⟩), .slice (some ⟨pb, po, none⟩) pl pc] w fun e w' => e = .returned (.tuple #[.int .i64 0, .iface et ep]) ∧ w'.heap = w.heap ∧ Kept [] w w' := by
  have c0 : w.cell? ⟨ks, 0, none⟩ = some (.string s) := by rw [Lib.cell_of_heap hks]; rfl
  have c1 : w.cell? ⟨ks, 1, none⟩ = some (.int .i64 i) := by rw [Lib.cell_of_heap hks]; rfl
  clear hks
  go_enter Tryd.func69, Tryd.ntmps69
  go_wp2
  go_quiet (fail)
  go_wp2
  go_quiet (fail)
  go_wp2
  go_ret2
  exact ⟨rfl, rfl, ((Kept.refl _ _).drewN _).drewN _⟩

set_option maxHeartbeats 400000 in
theorem sr_core (s : ByteArray) (i ks pb po pl pc n : Nat) (pr : Int) (cur X : List Value) (w : World)
    (hks : w.heap[ks]? = some (.cells #[.string s, .int .i64 i, .int .i64 pr] 70 (0, 0))) (hi : i < s.size) (_hs : s.size ≤ 2097152)
    (hpb : w.heap[pb]? = some (.cells cur.toArray 5 (0, 0))) (hne : pb ≠ ks) (_hmn : n ≤ s.size - i)
    (hcp : ∀ W' : World, W'.heap[pb]? = some (.cells cur.toArray 5 (0, 0)) → (Builtin.copy_ #[42, 9] 3 #[.slice (some ⟨pb, po, none⟩) pl pc, .string (s.extract i s.size)]).run Tryd.prog W' = .ok (goInt n) (W'.setRow pb X.toArray)) :
    Calls Tryd.prog 69 #[.pointer (some ⟨ks, 0, none⟩), .slice (some ⟨pb, po, none⟩) pl pc] w fun e w' =>
      e = .returned (.tuple #[.int .i64 n, .nilIface]) ∧
      w'.heap[ks]? = some (.cells #[.string s, .int .i64 (i + n), .int .i64 (-1)] 70 (0, 0)) ∧
      w'.heap[pb]? = some (.cells X.toArray 5 (0, 0)) ∧ Kept [ks, pb] w w' := by
  have c0 : w.cell? ⟨ks, 0, none⟩ = some (.string s) := by rw [Lib.cell_of_heap hks]; rfl
  have c1 : w.cell? ⟨ks, 1, none⟩ = some (.int .i64 i) := by rw [Lib.cell_of_heap hks]; rfl
  have c2 : w.cell? ⟨ks, 2, none⟩ = some (.int .i64 pr) := by rw [Lib.cell_of_heap hks]; rfl
  have f1 : w.frozen? ⟨ks, 1, none⟩ = false := Lib.frozen_of_heap hks 1
  have f2 : w.frozen? ⟨ks, 2, none⟩ = false := Lib.frozen_of_heap hks 2
  have HC := hide hcp
  clear hcp
  go_enter Tryd.func69, Tryd.ntmps69
  go_wp2
  go_quiet (fail)
  go_wp2
  have hks1 : ((w.drewN nq).setCell ⟨ks, 2, none⟩ (.int .i64 (-1))).heap[ks]? = some (.cells #[.string s, .int .i64 i, .int .i64 (-1)] 70 (0, 0)) := Lib.heap_setCell_same (i := 2) (w := w.drewN nq) hks _
  have hpb1 : ((w.drewN nq).setCell ⟨ks, 2, none⟩ (.int .i64 (-1))).heap[pb]? = some (.cells cur.toArray 5 (0, 0)) := by rw [Below.heap_setCell _ _ _ _ hne]; exact hpb
  have hk1 : Kept [ks, pb] w ((w.drewN nq).setCell ⟨ks, 2, none⟩ (.int .i64 (-1))) := ((Kept.refl _ _).drewN _).setCell (by simp) _
  generalize (w.drewN nq).setCell ⟨ks, 2, none⟩ (.int .i64 (-1)) = W at *
  clear c0 c1 c2 f1 f2 hks hpb
  have d0 : W.cell? ⟨ks, 0, none⟩ = some (.string s) := by rw [Lib.cell_of_heap hks1]; rfl
  have d1 : W.cell? ⟨ks, 1, none⟩ = some (.int .i64 i) := by rw [Lib.cell_of_heap hks1]; rfl
  have hb0 : (0 : Int) ≤ (i : Int) := by omega
  have hb1 : (i : Int) ≤ (s.size : Int) := by omega
  go_region_law (refine step_copy_run (by rfl) (.tmp 20) (.tmp 29) 42 9 (by rfl) _ _ _ _ (by rfl) (by rfl) (HC.out _ (by exact hpb1)) ?_)
  all_goals
    have hks2 : (W.drew.setRow pb X.toArray).heap[ks]? = some (.cells #[.string s, .int .i64 i, .int .i64 (-1)] 70 (0, 0)) := by rw [setRow_other _ _ _ _ (Ne.symm hne)]; exact hks1
    have hpb2 : (W.drew.setRow pb X.toArray).heap[pb]? = some (.cells X.toArray 5 (0, 0)) := setRow_heap W.drew pb _ _ _ _ hpb1
    have hk2 : Kept [ks, pb] w (W.drew.setRow pb X.toArray) := hk1.drew.setRow (by simp) _
    generalize W.drew.setRow pb X.toArray = V at *
    clear d0 d1 hks1 hpb1 hk1
    have e1 : V.cell? ⟨ks, 1, none⟩ = some (.int .i64 i) := by rw [Lib.cell_of_heap hks2]; rfl
    have g1 : V.frozen? ⟨ks, 1, none⟩ = false := Lib.frozen_of_heap hks2 1
    go_wp2
    go_ret2
    refine ⟨rfl, Lib.heap_setCell_same (i := 1) hks2 _, ?_, hk2.setCell (by simp) _⟩
    rw [Below.heap_setCell _ _ _ _ hne]; exact hpb2

/-- n bytes go over: as many as are left, or as fit. -/
theorem sr_read (s : ByteArray) (i ks pb po pl pc n : Nat) (pr : Int) (cur : List Value) (w : World)
    (hks : w.heap[ks]? = some (.cells #[.string s, .int .i64 i, .int .i64 pr] 70 (0, 0))) (hi : i < s.size) (hs : s.size ≤ 2097152)
    (hpb : w.heap[pb]? = some (.cells cur.toArray 5 (0, 0))) (hfit : po + pl ≤ cur.length) (hne : pb ≠ ks) (hn : n = min (s.size - i) pl) :
    Calls Tryd.prog 69 #[.pointer (some ⟨ks, 0, none⟩), .slice (some ⟨pb, po, none⟩) pl pc] w fun e w' =>
      e = .returned (.tuple #[.int .i64 n, .nilIface]) ∧
      w'.heap[ks]? = some (.cells #[.string s, .int .i64 (i + n), .int .i64 (-1)] 70 (0, 0)) ∧
      w'.heap[pb]? = some (.cells (splice cur po (Lib.byteCells ((s.data.toList.drop i).take n))).toArray 5 (0, 0)) ∧ Kept [ks, pb] w w' := by
  refine sr_core s i ks pb po pl pc n pr cur _ w hks hi hs hpb hne (by omega) ?_
  intro W' hW'
  have hsz : (s.extract i s.size).size = s.size - i := by simp
  have hmin : Nat.min (s.size - i) pl = n := hn.symm
  have hcs : Lib.byteCells ((s.data.toList.drop i).take n) = Lib.byteCells ((s.extract i s.size).data.toList.take (Nat.min (s.extract i s.size).size pl)) := by
    rw [hsz, hmin, Lib.extract_data, List.take_take]
    congr 2; omega
  have hl : (Lib.byteCells ((s.data.toList.drop i).take n)).length = n := by
    rw [Lib.byteCells_length, List.length_take, List.length_drop, ← Lib.size_eq]; omega
  have := run_copy_row_str (P := Tryd.prog) W' 42 9 3 5 pb po pl pc (s.extract i s.size) cur 5 _ Tryd.underlying42 info5 hW' hcs (by rw [hl]; omega)
  rw [hl] at this; exact this

end Go.Proofs.Qxb6613067aDoor
