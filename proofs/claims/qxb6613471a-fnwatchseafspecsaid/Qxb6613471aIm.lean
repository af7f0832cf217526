import Derived.Test.Qxb6613471aEx
namespace Go.Proofs.Qxb6613471a
open Go.RowKit

theorem info97 : (Try.prog.info? 97).map (fun i => (i.zero, i.size, i.bytes)) = some (some (.agg #[.string ⟨#[]⟩, .string ⟨#[]⟩, .string ⟨#[]⟩, .string ⟨#[]⟩, .string ⟨#[]⟩, .int .u8 0, .int .u16 0]), 7, 88) := by kernel_rfl

theorem arr_one (a : Wt) : ∀ u ∈ a.arr.toList, u.oneCell' = true := by
  intro u hu
  simp [Wt.arr] at hu
  rcases hu with rfl | rfl | rfl | rfl | rfl | rfl | rfl <;> rfl

theorem flatW_snoc (Ws : List Wt) (v : Wt) : flatW (Ws ++ [v]) = flatW Ws ++ v.arr.toList := by simp [flatW]
/-- The map of watches as an object. -/
def mapOf (Ws : List Wt) : Obj := .map (entsFrom 0 Ws).toArray Ws.length
def rowOf : Option Addr → List Nat | some a => [a.block] | none => []
theorem kept_of_grown {w w' : World} {ao : Option Addr} {n c : Nat} (h : w.grownBy w' (Value.slice ao n c).ownBlock) : Kept (rowOf ao) w w' :=
  ⟨h.os, h.tape, h.output, h.size, fun k hk hS => h.block k hk (fun e => hS (by
    cases ao with
    | none => simp [Value.ownBlock] at e
    | some a => simp only [Value.ownBlock, Option.some.injEq] at e; simp [rowOf, e]))⟩
/-- A row that is owned is no block of another tag. -/
theorem own_ne {w : World} {B e size n : Nat} {v : Value} {xs : List Value} (h : w.ownsRow B e size v n xs) {b : Nat} {cs : Array Value} {t : Nat} {fz : Nat × Nat} (hb : w.heap[b]? = some (.cells cs t fz)) (hne : e ≠ t) : v.ownBlock ≠ some b := by
  rcases h.2 with ⟨rfl, _⟩ | ⟨g, cap, cur, rfl, _, hg, _⟩
  · simp [Value.ownBlock]
  · intro e2
    simp only [Value.ownBlock, Option.some.injEq] at e2
    rw [e2, hb] at hg
    cases hg
    exact hne rfl
theorem own_ne_map {w : World} {B e size n : Nat} {v : Value} {xs : List Value} (h : w.ownsRow B e size v n xs) {b : Nat} {es : Array MapEntry} {c : Nat} (hb : w.heap[b]? = some (.map es c)) : v.ownBlock ≠ some b := by
  rcases h.2 with ⟨rfl, _⟩ | ⟨g, cap, cur, rfl, _, hg, _⟩
  · simp [Value.ownBlock]
  · intro e2
    simp only [Value.ownBlock, Option.some.injEq] at e2
    rw [e2, hb] at hg
    cases hg
theorem own_setCell {w : World} {B e size n : Nat} {v : Value} {xs : List Value} (h : w.ownsRow B e size v n xs) {b : Nat} (hne : v.ownBlock ≠ some b) (i : Nat) (u : Value) : (w.setCell ⟨b, i, none⟩ u).ownsRow B e size v n xs :=
  h.kept (Lib.grownBy_setCell w b i u) (Or.inr hne)
theorem own_putO {w : World} {B e size n : Nat} {v : Value} {xs : List Value} (h : w.ownsRow B e size v n xs) {b : Nat} {es : Array MapEntry} {c : Nat} (hb : w.heap[b]? = some (.map es c)) (o : Obj) : (putO w b o).ownsRow B e size v n xs :=
  h.kept (row := some b) ⟨rfl, rfl, rfl, by simp [putO], fun k _ hk => putO_other (fun e => hk (by rw [e]))⟩ (Or.inr (own_ne_map h hb))

/-- A slice that owns a row, its form. -/
theorem own_form {w : World} {B e size n : Nat} {v : Value} {xs : List Value} (h : w.ownsRow B e size v n xs) : ∃ ao cap, v = .slice ao n cap ∧ (∀ a, ao = some a → ∃ cur, w.heap[a.block]? = some (.cells cur e (0, 0)) ∧ B ≤ a.block) := by
  rcases h.2 with ⟨rfl, rfl⟩ | ⟨g, cap, cur, rfl, hb, hg, _⟩
  · exact ⟨none, 0, rfl, fun a ha => by cases ha⟩
  · exact ⟨some ⟨g, 0, none⟩, cap, rfl, fun a ha => by cases ha; exact ⟨cur, hg, hb⟩⟩

set_option maxHeartbeats 1000000 in
theorem id_miss (B eB mw : Nat) (cs : Array Value) (wv : Value) (Ws : List Wt) (v : Wt) (w : World) (he : w.heap[eB]? = some (.cells cs 94 (0, 0))) (h22 : cs[22]? = some wv) (h23 : cs[23]? = some (.map (some mw)))
    (hown : w.ownsRow B 97 7 wv Ws.length (flatW Ws)) (hm : w.heap[mw]? = some (.map (entsFrom 0 Ws).toArray Ws.length)) (hB : B ≤ w.heap.size) (hn : Ws.length ≤ 1000) (hno : idxFrom v 0 Ws = none) :
    Calls Try.prog 19 #[.pointer (some ⟨eB, 22, none⟩), .agg #[.string v.iss, .string v.comp, .string v.ue, .string v.sn, .string v.fl, .int .u8 v.ans, .int .u16 v.brk]] w fun e w' =>
      e = .returned (.int .u32 Ws.length) ∧ ∃ wv', w'.heap[eB]? = some (.cells (cs.setIfInBounds 22 wv') 94 (0, 0)) ∧ w'.ownsRow B 97 7 wv' (Ws ++ [v]).length (flatW (Ws ++ [v])) ∧
        w'.heap[mw]? = some (.map (entsFrom 0 (Ws ++ [v])).toArray (Ws ++ [v]).length) ∧
        (∃ row : List Nat, Kept (eB :: mw :: row) w w' ∧ ∀ k, k ∈ row → B ≤ k ∧ ∃ cur, w.heap[k]? = some (.cells cur 97 (0, 0))) := by
  obtain ⟨i0, hi, hz0, hz1, hz2⟩ := info_parts info97
  obtain ⟨ao, cap0, rfl, hao⟩ := own_form hown
  have hk0 : ∀ o, Kept [] w (w.alloc o) := fun o => (Kept.refl _ _).alloc o
  have hlk : ∀ (o : Obj) (k : Nat), (Instr.lookup 48 (.map (some mw)) (.agg #[.string v.iss, .string v.comp, .string v.ue, .string v.sn, .string v.fl, .int .u8 v.ans, .int .u16 v.brk]) true).run Try.prog ((w.alloc o).drewN k) = .ok (.tuple #[.int .u32 0, .bool false]) ((w.alloc o).drewN k) := fun o k => by
    have := look97 v ((w.alloc o).drewN k) mw Ws ((hk0 o).at hm (by simp))
    rw [hno] at this
    exact this
  have hlt := lt_of_heap he
  have c22 := cell_get he h22
  have c23 := cell_get he h23
  have HN := hide hno
  have HO := hide hown
  have HM := hide hm
  have HE := hide he
  have HA := hide hao
  have H22 := hide h22
  have H23 := hide h23
  have HI := hide hi
  have HZ0 := hide hz0
  have HZ1 := hide hz1
  have HZ2 := hide hz2
  clear hno hown hm he hao h22 h23 hi hz0 hz1 hz2
  go_enter Try.func19, Try.ntmps19
  go_wp2
  go_quiet (fail)
  clear hlk
  go_wp2
  have kV : Kept [] w ((w.alloc (.cells #[.string v.iss, .string v.comp, .string v.ue, .string v.sn, .string v.fl, .int .u8 v.ans, .int .u16 v.brk] 97)).drewN nq) := ((Kept.refl _ _).alloc _).drewN _
  have hVb : ((w.alloc (.cells #[.string v.iss, .string v.comp, .string v.ue, .string v.sn, .string v.fl, .int .u8 v.ans, .int .u16 v.brk] 97)).drewN nq).heap[w.heap.size]? = some (.cells #[.string v.iss, .string v.comp, .string v.ue, .string v.sn, .string v.fl, .int .u8 v.ans, .int .u16 v.brk] 97 (0, 0)) := heap_alloc_new w _
  have hVs : ((w.alloc (.cells #[.string v.iss, .string v.comp, .string v.ue, .string v.sn, .string v.fl, .int .u8 v.ans, .int .u16 v.brk] 97)).drewN nq).heap.size = w.heap.size + 1 := by simp [World.drewN]
  have hVo : ((w.alloc (.cells #[.string v.iss, .string v.comp, .string v.ue, .string v.sn, .string v.fl, .int .u8 v.ans, .int .u16 v.brk] 97)).drewN nq).ownsRow B 97 7 (.slice ao Ws.length cap0) Ws.length (flatW Ws) := HO.out.alloc _
  generalize (w.alloc (.cells #[.string v.iss, .string v.comp, .string v.ue, .string v.sn, .string v.fl, .int .u8 v.ans, .int .u16 v.brk] 97)).drewN nq = V at *
  clear c22 c23 hk0
  have HVS := hide hVs
  have hVs1 : w.heap.size < V.heap.size := by omega
  have HVO := hide hVo
  have hVe := kV.at HE.out (by simp)
  have hVm := kV.at HM.out (by simp)
  have HVM := hide hVm
  have d22 := cell_get hVe H22.out
  have x0 : V.cell? ⟨w.heap.size, 0, none⟩ = some (.string v.iss) := by rw [Lib.cell_of_heap hVb]; rfl
  have x1 : V.cell? ⟨w.heap.size, 1, none⟩ = some (.string v.comp) := by rw [Lib.cell_of_heap hVb]; rfl
  have x2 : V.cell? ⟨w.heap.size, 2, none⟩ = some (.string v.ue) := by rw [Lib.cell_of_heap hVb]; rfl
  have x3 : V.cell? ⟨w.heap.size, 3, none⟩ = some (.string v.sn) := by rw [Lib.cell_of_heap hVb]; rfl
  have x4 : V.cell? ⟨w.heap.size, 4, none⟩ = some (.string v.fl) := by rw [Lib.cell_of_heap hVb]; rfl
  have x5 : V.cell? ⟨w.heap.size, 5, none⟩ = some (.int .u8 v.ans) := by rw [Lib.cell_of_heap hVb]; rfl
  have x6 : V.cell? ⟨w.heap.size, 6, none⟩ = some (.int .u16 v.brk) := by rw [Lib.cell_of_heap hVb]; rfl
  have hneq : some eB ≠ (Value.slice ao Ws.length cap0).ownBlock := by
    cases ao with
    | none => simp [Value.ownBlock]
    | some a =>
      intro e
      obtain ⟨cur, hc, -⟩ := HA.out a rfl
      simp only [Value.ownBlock, Option.some.injEq] at e
      rw [← e, HE.out] at hc
      cases hc
  have hbneq : some w.heap.size ≠ (Value.slice ao Ws.length cap0).ownBlock := by
    cases ao with
    | none => simp [Value.ownBlock]
    | some a =>
      intro e
      obtain ⟨cur, hc, -⟩ := HA.out a rfl
      simp only [Value.ownBlock, Option.some.injEq] at e
      have := lt_of_heap hc
      omega
  have hmneq : some mw ≠ (Value.slice ao Ws.length cap0).ownBlock := by
    cases ao with
    | none => simp [Value.ownBlock]
    | some a =>
      intro e
      obtain ⟨cur, hc, -⟩ := HA.out a rfl
      simp only [Value.ownBlock, Option.some.injEq] at e
      rw [← e, HM.out] at hc
      cases hc
  have HVE := hide hVe
  have HVB := hide hVb
  clear hVs hVo hVe hVm hVb
  have hVe := lt_of_heap HVE.out
  go_region_law (refine step_append_lies _ (by rfl) (.tmp 29) (.tmp 31) 49 (by rfl) B 97 i0 _ 7 88 Try.underlying49 HI.out HZ0.out HZ1.out HZ2.out rfl (by omega) (.slice ao Ws.length cap0) Ws.length (flatW Ws) (by rfl) (by exact HVO.out.alloc _) ⟨V.heap.size, 0, none⟩ 1 1 v.arr.toList (by rfl) (by rfl) (by exact World.news_of_block (heap_alloc_new V _)) (arr_one v) (by omega) (by unfold maxLen; omega) (by omega) (by simp; omega) (V.heap.size + 1) (by simp) ?_; intro g cap w1 hown1 hgrow1 hat1 hlt1; have he1 : w1.heap[eB]? = some (.cells cs 94 (0, 0)) := (hgrow1.block eB (by simp; omega) hneq).trans ((Below.heap_alloc V _ eB hVe).trans HVE.out); have e22 := cell_get he1 H22.out; have f22 : w1.frozen? ⟨eB, 22, none⟩ = false := Lib.frozen_of_heap he1 22)
  all_goals
    have kW1 : Kept (rowOf ao) w w1 := (kV.mono (by simp)).trans (((Kept.refl _ _).alloc _).drew.trans (kept_of_grown hgrow1))
    have hm1 : w1.heap[mw]? = some (.map (entsFrom 0 Ws).toArray Ws.length) := (hgrow1.block mw (by have := lt_of_heap HVM.out; simp; omega) hmneq).trans ((Below.heap_alloc V _ mw (lt_of_heap HVM.out)).trans HVM.out)
    have hb1 : w1.heap[w.heap.size]? = some (.cells #[.string v.iss, .string v.comp, .string v.ue, .string v.sn, .string v.fl, .int .u8 v.ans, .int .u16 v.brk] 97 (0, 0)) := (hgrow1.block w.heap.size (by simp; omega) hbneq).trans ((Below.heap_alloc V _ w.heap.size hVs1).trans HVB.out)
    have hge : (Value.slice (some ⟨g, 0, none⟩) (Ws.length + 1) cap).ownBlock ≠ some eB := own_ne hown1 he1 (by decide)
    have hme : mw ≠ eB := fun e => by rw [e, he1] at hm1; cases hm1
    have hbe : w.heap.size ≠ eB := by omega
    have kU : Kept (eB :: mw :: rowOf ao) w (w1.setCell ⟨eB, 22, none⟩ (.slice (some ⟨g, 0, none⟩) (Ws.length + 1) cap)) := (kW1.mono (fun k hk => by simp [hk])).setCell (by simp) _
    have hUe := Lib.heap_setCell_same (i := 22) he1 (.slice (some ⟨g, 0, none⟩) (Ws.length + 1) cap)
    have hUm := heap_sc (b := eB) (i := 22) (.slice (some ⟨g, 0, none⟩) (Ws.length + 1) cap) hme hm1
    have hUb := heap_sc (b := eB) (i := 22) (.slice (some ⟨g, 0, none⟩) (Ws.length + 1) cap) hbe hb1
    have hUo := own_setCell hown1 hge 22 (.slice (some ⟨g, 0, none⟩) (Ws.length + 1) cap)
    generalize w1.setCell ⟨eB, 22, none⟩ (.slice (some ⟨g, 0, none⟩) (Ws.length + 1) cap) = U at *
    clear e22 f22 he1 hown1 hgrow1 hat1 hlt1 kW1 hm1 hb1 hge hneq hbneq hmneq x0 x1 x2 x3 x4 x5 x6 d22
    have x0 : U.cell? ⟨w.heap.size, 0, none⟩ = some (.string v.iss) := by rw [Lib.cell_of_heap hUb]; rfl
    have x1 : U.cell? ⟨w.heap.size, 1, none⟩ = some (.string v.comp) := by rw [Lib.cell_of_heap hUb]; rfl
    have x2 : U.cell? ⟨w.heap.size, 2, none⟩ = some (.string v.ue) := by rw [Lib.cell_of_heap hUb]; rfl
    have x3 : U.cell? ⟨w.heap.size, 3, none⟩ = some (.string v.sn) := by rw [Lib.cell_of_heap hUb]; rfl
    have x4 : U.cell? ⟨w.heap.size, 4, none⟩ = some (.string v.fl) := by rw [Lib.cell_of_heap hUb]; rfl
    have x5 : U.cell? ⟨w.heap.size, 5, none⟩ = some (.int .u8 v.ans) := by rw [Lib.cell_of_heap hUb]; rfl
    have x6 : U.cell? ⟨w.heap.size, 6, none⟩ = some (.int .u16 v.brk) := by rw [Lib.cell_of_heap hUb]; rfl
    have y23 : U.cell? ⟨eB, 23, none⟩ = some (.map (some mw)) := cell_get hUe (by rw [Array.getElem?_setIfInBounds_ne (by decide)]; exact H23.out)
    have hup : (Instr.mapUpdate 48 (.map (some mw)) (.agg #[.string v.iss, .string v.comp, .string v.ue, .string v.sn, .string v.fl, .int .u8 v.ans, .int .u16 v.brk]) (.int .u32 (Ws.length : Int))).run Try.prog U.drew = .ok () (putO U.drew mw (mapOf (Ws ++ [v]))) := upd97 v U.drew mw Ws hUm HN.out
    have fin : ∃ wv', (putO U.drew mw (mapOf (Ws ++ [v]))).heap[eB]? = some (.cells (cs.setIfInBounds 22 wv') 94 (0, 0)) ∧ (putO U.drew mw (mapOf (Ws ++ [v]))).ownsRow B 97 7 wv' (Ws ++ [v]).length (flatW (Ws ++ [v])) ∧
        (putO U.drew mw (mapOf (Ws ++ [v]))).heap[mw]? = some (.map (entsFrom 0 (Ws ++ [v])).toArray (Ws ++ [v]).length) ∧
        (∃ row : List Nat, Kept (eB :: mw :: row) w (putO U.drew mw (mapOf (Ws ++ [v]))) ∧ ∀ k, k ∈ row → B ≤ k ∧ ∃ cur, w.heap[k]? = some (.cells cur 97 (0, 0))) := by
      refine ⟨.slice (some ⟨g, 0, none⟩) (Ws.length + 1) cap, (putO_other (Ne.symm hme)).trans hUe, ?_, putO_same (w := U.drew) hUm, rowOf ao, kU.drew.putO (by simp) _, ?_⟩
      · have := own_putO (w := U.drew) hUo hUm (mapOf (Ws ++ [v]))
        rw [← flatW_snoc] at this
        rw [show (Ws ++ [v]).length = Ws.length + 1 from by simp]
        exact this
      · intro k hk
        cases ao with
        | none => simp [rowOf] at hk
        | some a =>
          simp [rowOf] at hk
          subst hk
          obtain ⟨cur, h1, h2⟩ := HA.out a rfl
          exact ⟨h2, cur, h1⟩
    have FIN := hide fin
    clear fin hUo hUe hUm hUb kU
    go_wp2
    go_region
    all_goals
      go_wp2
      go_ret
      exact ⟨rfl, FIN.out⟩

end Go.Proofs.Qxb6613471a
