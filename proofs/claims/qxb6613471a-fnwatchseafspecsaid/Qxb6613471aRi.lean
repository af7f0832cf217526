import Derived.Test.Qxb6613471aId
import Derived.Deep.CutRange
namespace Go.Proofs.Qxb6613471a
open Go.RowKit

theorem info102 : (Try.prog.info? 102).map (fun i => (i.zero, i.size, i.bytes)) = some (some (.agg #[.int .u32 0, .int .u32 0, .int .u32 0, .int .u32 0, .int .u32 0, .int .u32 0, .int .u32 0, .int .u32 0, .int .u32 0, .int .u32 0, .bool false, .int .u8 0, .int .u8 0, .bool false, .bool false, .int .u32 0]), 16, 52) := by kernel_rfl
theorem run_one (n : Nat) : ∀ u ∈ runCells n, u.oneCell' = true := by
  intro u hu
  simp [runCells] at hu
  rcases hu with rfl | rfl | rfl | rfl | rfl <;> rfl
theorem check102 (e : Bool) (n : Int) (w : World) : (Instr.checkKey e 10000 102 (.agg #[.int .u32 0, .int .u32 0, .int .u32 0, .int .u32 0, .int .u32 0, .int .u32 0, .int .u32 0, .int .u32 0, .int .u32 0, .int .u32 0, .bool true, .int .u8 0, .int .u8 0, .bool false, .bool false, .int .u32 n])).run Try.prog w = .ok () w := by kernel_rfl
def mapR (n : Nat) : Obj := .map #[{ key := .agg #[.int .u32 0, .int .u32 0, .int .u32 0, .int .u32 0, .int .u32 0, .int .u32 0, .int .u32 0, .int .u32 0, .int .u32 0, .int .u32 0, .bool true, .int .u8 0, .int .u8 0, .bool false, .bool false, .int .u32 (n : Int)], val := .int .u32 0, born := 0 }] 1
theorem find102 (k : Value) (w : World) : (Instr.findKey 102 k []).run Try.prog w = .ok none w := by
  simp [Instr.findKey, run_underlying Try.underlying102, Instr.findNow]
theorem look102 (n : Nat) (w : World) (mw : Nat) (hm : w.heap[mw]? = some (.map #[] 0)) :
    (Instr.lookup 44 (.map (some mw)) (.agg #[.int .u32 0, .int .u32 0, .int .u32 0, .int .u32 0, .int .u32 0, .int .u32 0, .int .u32 0, .int .u32 0, .int .u32 0, .int .u32 0, .bool true, .int .u8 0, .int .u8 0, .bool false, .bool false, .int .u32 (n : Int)]) true).run Try.prog w = .ok (.tuple #[.int .u32 0, .bool false]) w := by
  have hg : (getObj mw).run Try.prog w = .ok (.map #[] 0) w := by simp [getObj, Sem.run, hm]
  simp only [Instr.lookup, Sem.run_bind, run_underlying Try.underlying44, Result.andThen_ok, hg, check102, Sem.run_pure, find102]
  simp
theorem upd102 (n : Nat) (w : World) (mw : Nat) (hm : w.heap[mw]? = some (.map #[] 0)) :
    (Instr.mapUpdate 44 (.map (some mw)) (.agg #[.int .u32 0, .int .u32 0, .int .u32 0, .int .u32 0, .int .u32 0, .int .u32 0, .int .u32 0, .int .u32 0, .int .u32 0, .int .u32 0, .bool true, .int .u8 0, .int .u8 0, .bool false, .bool false, .int .u32 (n : Int)]) (.int .u32 0)).run Try.prog w = .ok () (putO w mw (mapR n)) := by
  have hg : (getObj mw).run Try.prog w = .ok (.map #[] 0) w := by simp [getObj, Sem.run, hm]
  have hs : (setObj mw (mapR n)).run Try.prog w = .ok () (putO w mw (mapR n)) := by simp [setObj, Sem.run, hm, putO]
  rw [← hs]
  simp only [Instr.mapUpdate, Sem.run_bind, run_underlying Try.underlying44, Result.andThen_ok, hg, check102, find102]
  rfl

set_option maxHeartbeats 1000000 in
theorem rid_any (B eB mw : Nat) (cs : Array Value) (wv : Value) (n : Nat) (w : World) (he : w.heap[eB]? = some (.cells cs 94 (0, 0))) (h22 : cs[20]? = some wv) (h23 : cs[21]? = some (.map (some mw)))
    (hown : w.ownsRow B 102 16 wv 0 []) (hm : w.heap[mw]? = some (.map #[] 0)) (hB : B ≤ w.heap.size)  :
    Calls Try.prog 20 #[.pointer (some ⟨eB, 20, none⟩), .agg #[.int .u32 0, .int .u32 0, .int .u32 0, .int .u32 0, .int .u32 0, .int .u32 0, .int .u32 0, .int .u32 0, .int .u32 0, .int .u32 0, .bool true, .int .u8 0, .int .u8 0, .bool false, .bool false, .int .u32 (n : Int)]] w fun e w' =>
      e = .returned (.int .u32 0) ∧ ∃ wv', w'.heap[eB]? = some (.cells (cs.setIfInBounds 20 wv') 94 (0, 0)) ∧ w'.ownsRow B 102 16 wv' 1 (runCells n) ∧
        w'.heap[mw]? = some (mapR n) ∧
        (∃ row : List Nat, Kept (eB :: mw :: row) w w' ∧ ∀ k, k ∈ row → B ≤ k ∧ ∃ cur, w.heap[k]? = some (.cells cur 102 (0, 0))) := by
  obtain ⟨i0, hi, hz0, hz1, hz2⟩ := info_parts info102
  obtain ⟨ao, cap0, rfl, hao⟩ := own_form hown
  have hk0 : ∀ o, Kept [] w (w.alloc o) := fun o => (Kept.refl _ _).alloc o
  have hlk : ∀ (o : Obj) (k : Nat), (Instr.lookup 44 (.map (some mw)) (.agg #[.int .u32 0, .int .u32 0, .int .u32 0, .int .u32 0, .int .u32 0, .int .u32 0, .int .u32 0, .int .u32 0, .int .u32 0, .int .u32 0, .bool true, .int .u8 0, .int .u8 0, .bool false, .bool false, .int .u32 (n : Int)]) true).run Try.prog ((w.alloc o).drewN k) = .ok (.tuple #[.int .u32 0, .bool false]) ((w.alloc o).drewN k) := fun o k => by
    have := look102 n ((w.alloc o).drewN k) mw ((hk0 o).at hm (by simp))
    exact this
  have hlt := lt_of_heap he
  have c22 := cell_get he h22
  have c23 := cell_get he h23
  have HO := hide hown
  have HM := hide hm
  have HE := hide he
  have HA := hide hao
  have H22 := hide h22
  have H23 := hide h23
  have HI := hide hi
  have HZ0 := hide hz0
  have HZ1 := hide hz1
  have HZ2 := hide hz2
  clear hown hm he hao h22 h23 hi hz0 hz1 hz2
  go_enter Try.func20, Try.ntmps20
  go_wp2
  go_quiet (fail)
  clear hlk
  go_wp2
  have kV : Kept [] w ((w.alloc (.cells #[.int .u32 0, .int .u32 0, .int .u32 0, .int .u32 0, .int .u32 0, .int .u32 0, .int .u32 0, .int .u32 0, .int .u32 0, .int .u32 0, .bool true, .int .u8 0, .int .u8 0, .bool false, .bool false, .int .u32 (n : Int)] 102)).drewN nq) := ((Kept.refl _ _).alloc _).drewN _
  have hVb : ((w.alloc (.cells #[.int .u32 0, .int .u32 0, .int .u32 0, .int .u32 0, .int .u32 0, .int .u32 0, .int .u32 0, .int .u32 0, .int .u32 0, .int .u32 0, .bool true, .int .u8 0, .int .u8 0, .bool false, .bool false, .int .u32 (n : Int)] 102)).drewN nq).heap[w.heap.size]? = some (.cells #[.int .u32 0, .int .u32 0, .int .u32 0, .int .u32 0, .int .u32 0, .int .u32 0, .int .u32 0, .int .u32 0, .int .u32 0, .int .u32 0, .bool true, .int .u8 0, .int .u8 0, .bool false, .bool false, .int .u32 (n : Int)] 102 (0, 0)) := heap_alloc_new w _
  have hVs : ((w.alloc (.cells #[.int .u32 0, .int .u32 0, .int .u32 0, .int .u32 0, .int .u32 0, .int .u32 0, .int .u32 0, .int .u32 0, .int .u32 0, .int .u32 0, .bool true, .int .u8 0, .int .u8 0, .bool false, .bool false, .int .u32 (n : Int)] 102)).drewN nq).heap.size = w.heap.size + 1 := by simp [World.drewN]
  have hVo : ((w.alloc (.cells #[.int .u32 0, .int .u32 0, .int .u32 0, .int .u32 0, .int .u32 0, .int .u32 0, .int .u32 0, .int .u32 0, .int .u32 0, .int .u32 0, .bool true, .int .u8 0, .int .u8 0, .bool false, .bool false, .int .u32 (n : Int)] 102)).drewN nq).ownsRow B 102 16 (.slice ao 0 cap0) 0 [] := HO.out.alloc _
  generalize (w.alloc (.cells #[.int .u32 0, .int .u32 0, .int .u32 0, .int .u32 0, .int .u32 0, .int .u32 0, .int .u32 0, .int .u32 0, .int .u32 0, .int .u32 0, .bool true, .int .u8 0, .int .u8 0, .bool false, .bool false, .int .u32 (n : Int)] 102)).drewN nq = V at *
  clear c22 c23 hk0
  have HVS := hide hVs
  have hVs1 : w.heap.size < V.heap.size := by omega
  have HVO := hide hVo
  have hVe := kV.at HE.out (by simp)
  have hVm := kV.at HM.out (by simp)
  have HVM := hide hVm
  have d22 := cell_get hVe H22.out
  have x0 : V.cell? ⟨w.heap.size, 0, none⟩ = some (.int .u32 0) := by rw [Lib.cell_of_heap hVb]; rfl
  have x1 : V.cell? ⟨w.heap.size, 1, none⟩ = some (.int .u32 0) := by rw [Lib.cell_of_heap hVb]; rfl
  have x2 : V.cell? ⟨w.heap.size, 2, none⟩ = some (.int .u32 0) := by rw [Lib.cell_of_heap hVb]; rfl
  have x3 : V.cell? ⟨w.heap.size, 3, none⟩ = some (.int .u32 0) := by rw [Lib.cell_of_heap hVb]; rfl
  have x4 : V.cell? ⟨w.heap.size, 4, none⟩ = some (.int .u32 0) := by rw [Lib.cell_of_heap hVb]; rfl
  have x5 : V.cell? ⟨w.heap.size, 5, none⟩ = some (.int .u32 0) := by rw [Lib.cell_of_heap hVb]; rfl
  have x6 : V.cell? ⟨w.heap.size, 6, none⟩ = some (.int .u32 0) := by rw [Lib.cell_of_heap hVb]; rfl
  have x7 : V.cell? ⟨w.heap.size, 7, none⟩ = some (.int .u32 0) := by rw [Lib.cell_of_heap hVb]; rfl
  have x8 : V.cell? ⟨w.heap.size, 8, none⟩ = some (.int .u32 0) := by rw [Lib.cell_of_heap hVb]; rfl
  have x9 : V.cell? ⟨w.heap.size, 9, none⟩ = some (.int .u32 0) := by rw [Lib.cell_of_heap hVb]; rfl
  have x10 : V.cell? ⟨w.heap.size, 10, none⟩ = some (.bool true) := by rw [Lib.cell_of_heap hVb]; rfl
  have x11 : V.cell? ⟨w.heap.size, 11, none⟩ = some (.int .u8 0) := by rw [Lib.cell_of_heap hVb]; rfl
  have x12 : V.cell? ⟨w.heap.size, 12, none⟩ = some (.int .u8 0) := by rw [Lib.cell_of_heap hVb]; rfl
  have x13 : V.cell? ⟨w.heap.size, 13, none⟩ = some (.bool false) := by rw [Lib.cell_of_heap hVb]; rfl
  have x14 : V.cell? ⟨w.heap.size, 14, none⟩ = some (.bool false) := by rw [Lib.cell_of_heap hVb]; rfl
  have x15 : V.cell? ⟨w.heap.size, 15, none⟩ = some (.int .u32 (n : Int)) := by rw [Lib.cell_of_heap hVb]; rfl
  have hneq : some eB ≠ (Value.slice ao 0 cap0).ownBlock := by
    cases ao with
    | none => simp [Value.ownBlock]
    | some a =>
      intro e
      obtain ⟨cur, hc, -⟩ := HA.out a rfl
      simp only [Value.ownBlock, Option.some.injEq] at e
      rw [← e, HE.out] at hc
      cases hc
  have hbneq : some w.heap.size ≠ (Value.slice ao 0 cap0).ownBlock := by
    cases ao with
    | none => simp [Value.ownBlock]
    | some a =>
      intro e
      obtain ⟨cur, hc, -⟩ := HA.out a rfl
      simp only [Value.ownBlock, Option.some.injEq] at e
      have := lt_of_heap hc
      omega
  have hmneq : some mw ≠ (Value.slice ao 0 cap0).ownBlock := by
    cases ao with
    | none => simp [Value.ownBlock]
    | some a =>
      intro e
      obtain ⟨cur, hc, -⟩ := HA.out a rfl
      simp only [Value.ownBlock, Option.some.injEq] at e
      rw [← e, HM.out] at hc
      cases hc
  have HVE := hide hVe
  have HVB := hide hVb
  clear hVs hVo hVe hVm hVb
  have hVe := lt_of_heap HVE.out
  go_upto_region 5 with fail
  go_cut [7] from 25 to 34 (fun n7 U => n7 = .int .u32 0 ∧ Hid (∃ g cap, mw ≠ eB ∧ Kept (eB :: mw :: rowOf ao) w U ∧ U.heap[eB]? = some (.cells (cs.setIfInBounds 20 (.slice (some ⟨g, 0, none⟩) (0 + 1) cap)) 94 (0, 0)) ∧ U.heap[mw]? = some (.map #[] 0) ∧ U.heap[w.heap.size]? = some (.cells #[.int .u32 0, .int .u32 0, .int .u32 0, .int .u32 0, .int .u32 0, .int .u32 0, .int .u32 0, .int .u32 0, .int .u32 0, .int .u32 0, .bool true, .int .u8 0, .int .u8 0, .bool false, .bool false, .int .u32 (n : Int)] 102 (0, 0)) ∧ U.ownsRow B 102 16 (.slice (some ⟨g, 0, none⟩) (0 + 1) cap) (0 + 1) ([] ++ runCells n)))
  case first =>
    go_region_law (refine step_append_lies _ (by rfl) (.tmp 29) (.tmp 31) 45 (by rfl) B 102 i0 _ 16 52 Try.underlying45 HI.out HZ0.out HZ1.out HZ2.out rfl (by omega) (.slice ao 0 cap0) 0 [] (by rfl) (by exact HVO.out.alloc _) ⟨V.heap.size, 0, none⟩ 1 1 (runCells n) (by rfl) (by rfl) (by exact World.news_of_block (heap_alloc_new V _)) (run_one n) (by omega) (by unfold maxLen; omega) (by omega) (by simp; omega) (V.heap.size + 1) (by simp) ?_; intro g cap w1 hown1 hgrow1 hat1 hlt1; have he1 : w1.heap[eB]? = some (.cells cs 94 (0, 0)) := (hgrow1.block eB (by simp; omega) hneq).trans ((Below.heap_alloc V _ eB hVe).trans HVE.out); have e22 := cell_get he1 H22.out; have f22 : w1.frozen? ⟨eB, 20, none⟩ = false := Lib.frozen_of_heap he1 20)
    all_goals
      have kW1 : Kept (rowOf ao) w w1 := (kV.mono (by simp)).trans (((Kept.refl _ _).alloc _).drew.trans (kept_of_grown hgrow1))
      have hm1 : w1.heap[mw]? = some (.map #[] 0) := (hgrow1.block mw (by have := lt_of_heap HVM.out; simp; omega) hmneq).trans ((Below.heap_alloc V _ mw (lt_of_heap HVM.out)).trans HVM.out)
      have hb1 : w1.heap[w.heap.size]? = some (.cells #[.int .u32 0, .int .u32 0, .int .u32 0, .int .u32 0, .int .u32 0, .int .u32 0, .int .u32 0, .int .u32 0, .int .u32 0, .int .u32 0, .bool true, .int .u8 0, .int .u8 0, .bool false, .bool false, .int .u32 (n : Int)] 102 (0, 0)) := (hgrow1.block w.heap.size (by simp; omega) hbneq).trans ((Below.heap_alloc V _ w.heap.size hVs1).trans HVB.out)
      have hge : (Value.slice (some ⟨g, 0, none⟩) (0 + 1) cap).ownBlock ≠ some eB := own_ne hown1 he1 (by decide)
      have hme : mw ≠ eB := fun e => by rw [e, he1] at hm1; cases hm1
      have hbe : w.heap.size ≠ eB := by omega
      have kU : Kept (eB :: mw :: rowOf ao) w (w1.setCell ⟨eB, 20, none⟩ (.slice (some ⟨g, 0, none⟩) (0 + 1) cap)) := (kW1.mono (fun k hk => by simp [hk])).setCell (by simp) _
      have hUe := Lib.heap_setCell_same (i := 20) he1 (.slice (some ⟨g, 0, none⟩) (0 + 1) cap)
      have hUm := heap_sc (b := eB) (i := 20) (.slice (some ⟨g, 0, none⟩) (0 + 1) cap) hme hm1
      have hUb := heap_sc (b := eB) (i := 20) (.slice (some ⟨g, 0, none⟩) (0 + 1) cap) hbe hb1
      have hUo := own_setCell hown1 hge 20 (.slice (some ⟨g, 0, none⟩) (0 + 1) cap)
      have FF := hide (And.intro hme (And.intro kU (And.intro hUe (And.intro hUm (And.intro hUb hUo)))))
      clear hown1 hgrow1 hat1 hlt1 kW1 hm1 hb1 hge hneq hbneq hmneq kU hUe hUm hUb hUo
      go_wp2
      go_meet
      exact ⟨rfl, hide ⟨g, cap, FF.out⟩⟩
  case rest =>
    obtain ⟨rfl, HH⟩ := hcut
    obtain ⟨g, cap, hme, kU, hUe, hUm, hUb, hUo⟩ := HH.out
    clear HH
    clear x0 x1 x2 x3 x4 x5 x6 x7 x8 x9 x10 x11 x12 x13 x14 x15 d22 hneq hbneq hmneq
    generalize wc = U at *
    have x0 : U.cell? ⟨w.heap.size, 0, none⟩ = some (.int .u32 0) := by rw [Lib.cell_of_heap hUb]; rfl
    have x1 : U.cell? ⟨w.heap.size, 1, none⟩ = some (.int .u32 0) := by rw [Lib.cell_of_heap hUb]; rfl
    have x2 : U.cell? ⟨w.heap.size, 2, none⟩ = some (.int .u32 0) := by rw [Lib.cell_of_heap hUb]; rfl
    have x3 : U.cell? ⟨w.heap.size, 3, none⟩ = some (.int .u32 0) := by rw [Lib.cell_of_heap hUb]; rfl
    have x4 : U.cell? ⟨w.heap.size, 4, none⟩ = some (.int .u32 0) := by rw [Lib.cell_of_heap hUb]; rfl
    have x5 : U.cell? ⟨w.heap.size, 5, none⟩ = some (.int .u32 0) := by rw [Lib.cell_of_heap hUb]; rfl
    have x6 : U.cell? ⟨w.heap.size, 6, none⟩ = some (.int .u32 0) := by rw [Lib.cell_of_heap hUb]; rfl
    have x7 : U.cell? ⟨w.heap.size, 7, none⟩ = some (.int .u32 0) := by rw [Lib.cell_of_heap hUb]; rfl
    have x8 : U.cell? ⟨w.heap.size, 8, none⟩ = some (.int .u32 0) := by rw [Lib.cell_of_heap hUb]; rfl
    have x9 : U.cell? ⟨w.heap.size, 9, none⟩ = some (.int .u32 0) := by rw [Lib.cell_of_heap hUb]; rfl
    have x10 : U.cell? ⟨w.heap.size, 10, none⟩ = some (.bool true) := by rw [Lib.cell_of_heap hUb]; rfl
    have x11 : U.cell? ⟨w.heap.size, 11, none⟩ = some (.int .u8 0) := by rw [Lib.cell_of_heap hUb]; rfl
    have x12 : U.cell? ⟨w.heap.size, 12, none⟩ = some (.int .u8 0) := by rw [Lib.cell_of_heap hUb]; rfl
    have x13 : U.cell? ⟨w.heap.size, 13, none⟩ = some (.bool false) := by rw [Lib.cell_of_heap hUb]; rfl
    have x14 : U.cell? ⟨w.heap.size, 14, none⟩ = some (.bool false) := by rw [Lib.cell_of_heap hUb]; rfl
    have x15 : U.cell? ⟨w.heap.size, 15, none⟩ = some (.int .u32 (n : Int)) := by rw [Lib.cell_of_heap hUb]; rfl
    have y23 : U.cell? ⟨eB, 21, none⟩ = some (.map (some mw)) := cell_get hUe (by rw [Array.getElem?_setIfInBounds_ne (by decide)]; exact H23.out)
    have hup : (Instr.mapUpdate 44 (.map (some mw)) (.agg #[.int .u32 0, .int .u32 0, .int .u32 0, .int .u32 0, .int .u32 0, .int .u32 0, .int .u32 0, .int .u32 0, .int .u32 0, .int .u32 0, .bool true, .int .u8 0, .int .u8 0, .bool false, .bool false, .int .u32 (n : Int)]) (.int .u32 0)).run Try.prog U.drew = .ok () (putO U.drew mw (mapR n)) := upd102 n U.drew mw hUm
    have fin : ∃ wv', (putO U.drew mw (mapR n)).heap[eB]? = some (.cells (cs.setIfInBounds 20 wv') 94 (0, 0)) ∧ (putO U.drew mw (mapR n)).ownsRow B 102 16 wv' 1 (runCells n) ∧
        (putO U.drew mw (mapR n)).heap[mw]? = some (mapR n) ∧
        (∃ row : List Nat, Kept (eB :: mw :: row) w (putO U.drew mw (mapR n)) ∧ ∀ k, k ∈ row → B ≤ k ∧ ∃ cur, w.heap[k]? = some (.cells cur 102 (0, 0))) := by
      refine ⟨.slice (some ⟨g, 0, none⟩) (0 + 1) cap, (putO_other (Ne.symm hme)).trans hUe, ?_, putO_same (w := U.drew) hUm, rowOf ao, kU.drew.putO (by simp) _, ?_⟩
      · have := own_putO (w := U.drew) hUo hUm (mapR n)
        exact this
      · intro k hk
        cases ao with
        | none => simp [rowOf] at hk
        | some a =>
          simp [rowOf] at hk
          subst hk
          obtain ⟨cur, h1, h2⟩ := HA.out a rfl
          exact ⟨h2, cur, h1⟩
    have FIN := hide fin
    clear fin hUo hUe hUm hUb kU
    go_wp2
    go_region
    all_goals
      go_wp2
      go_ret
      exact ⟨rfl, FIN.out⟩

end Go.Proofs.Qxb6613471a
