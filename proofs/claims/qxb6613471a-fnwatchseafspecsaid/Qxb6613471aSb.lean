import Derived.Test.Qxb6613471aId
namespace Go.Proofs.Qxb6613471a
open Go.RowKit

theorem info107 : (Try.prog.info? 107).map (fun i => (i.zero, i.size, i.bytes)) = some (some (.agg #[.int .u32 0, .int .u32 0, .int .u32 0, .pointer none, .int .u32 0, .int .u32 0, .int .i64 0, .int .i64 0]), 8, 48) := by kernel_rfl
theorem sub_one (p : Nat × Nat) : ∀ u ∈ subCells p, u.oneCell' = true := by
  intro u hu
  simp [subCells] at hu
  rcases hu with rfl | rfl | rfl | rfl | rfl | rfl <;> rfl
theorem flatS_snoc (ss : List (Nat × Nat)) (p : Nat × Nat) : flatS (ss ++ [p]) = flatS ss ++ subCells p := by simp [flatS]

set_option maxHeartbeats 1000000 in
theorem addsub_any (B eB mr mw : Nat) (subs : List (Nat × Nat)) (runs : List Nat) (rs : Array MapEntry) (rc : Nat) (Ws : List Wt) (p : Nat × Nat) (w : World) (h : Ex B eB mr mw subs runs rs rc Ws w) (hn : subs.length ≤ 5000) :
    Calls Try.prog 9 #[.pointer (some ⟨eB, 0, none⟩), .int .u32 (p.1 : Int), .int .u32 (p.2 : Int)] w fun e w' =>
      e = .returned (.tuple #[]) ∧ Ex B eB mr mw (subs ++ [p]) runs rs rc Ws w' ∧ Fr B [94, 107] [] w w' := by
  obtain ⟨i0, hi, hz0, hz1, hz2⟩ := info_parts info107
  have hB := h.lt
  obtain ⟨cs, sv, rv, wv, a1, a2, a3, a4, a5, a6, a7, a8, a9, a10, a11, a12, a13, a14, a15⟩ := h
  obtain ⟨ao, cap0, rfl, hao⟩ := own_form a7
  have c14 := cell_get a1 a2
  have hlt := hB.2.1
  have hB4 := hB.2.2.2
  have hneq : some eB ≠ (Value.slice ao subs.length cap0).ownBlock := fun e => own_ne a7 a1 (by decide) e.symm
  have HA := hide (And.intro a1 (And.intro a2 (And.intro a3 (And.intro a4 (And.intro a5 a6)))))
  have HC := hide (And.intro a7 (And.intro a8 (And.intro a9 (And.intro a10 (And.intro a11 (And.intro a12 (And.intro a13 (And.intro a14 a15))))))))
  have HAO := hide hao
  have HI := hide hi
  have HZ0 := hide hz0
  have HZ1 := hide hz1
  have HZ2 := hide hz2
  clear a1 a2 a3 a4 a5 a6 a7 a8 a9 a10 a11 a12 a13 a14 a15 hao hi hz0 hz1 hz2
  go_enter Try.func9, Try.ntmps9
  go_wp2_with (at_builtin; refine wpList_append_lies _ rfl _ _ 58 rfl B 107 i0 _ 8 48 Try.underlying58 HI.out HZ0.out HZ1.out HZ2.out rfl (by omega) (.slice ao subs.length cap0) subs.length (flatS subs) rfl (by exact HC.out.1.alloc _) ⟨w.heap.size, 0, none⟩ 1 1 (subCells p) rfl rfl (by exact World.news_of_block (heap_alloc_new w _)) (sub_one p) (by omega) (by unfold maxLen; omega) (by omega) (by simp; omega) (w.heap.size + 1) (by simp) ?_; intro g cap w1 hown1 hgrow1 hat1 hlt1; have he1 : w1.heap[eB]? = some (.cells cs 94 (0, 0)) := (hgrow1.block eB (by simp; omega) hneq).trans ((Below.heap_alloc w _ eB hlt).trans HA.out.1); have e14 := cell_get he1 HA.out.2.1; have f14 : w1.frozen? ⟨eB, 14, none⟩ = false := Lib.frozen_of_heap he1 14)
  go_wp2
  refine bodyPost_end (results_none rfl _ _ _) rfl ?_
  have k1 : Kept (rowOf ao) w w1 := ((Kept.refl _ _).alloc _).trans (kept_of_grown hgrow1)
  have kU : Kept (eB :: rowOf ao) w (w1.setCell ⟨eB, 14, none⟩ (.slice (some ⟨g, 0, none⟩) (subs.length + 1) cap)) := (k1.mono (fun k hk => by simp [hk])).setCell (by simp) _
  have hUe := Lib.heap_setCell_same (i := 14) he1 (.slice (some ⟨g, 0, none⟩) (subs.length + 1) cap)
  have hge : (Value.slice (some ⟨g, 0, none⟩) (subs.length + 1) cap).ownBlock ≠ some eB := own_ne hown1 he1 (by decide)
  have hUo := own_setCell hown1 hge 14 (.slice (some ⟨g, 0, none⟩) (subs.length + 1) cap)
  generalize w1.setCell ⟨eB, 14, none⟩ (.slice (some ⟨g, 0, none⟩) (subs.length + 1) cap) = U at *
  obtain ⟨a1, a2, a3, a4, a5, a6⟩ := HA.out
  obtain ⟨a7, a8, a9, a10, a11, a12, a13, a14, a15⟩ := HC.out
  have f : Fr B [94, 107] [] w U := by
    refine Fr.of_kept kU hB4 (fun j hj => ?_)
    simp only [List.mem_cons] at hj
    rcases hj with rfl | hj
    · refine ⟨a13, fun cs' t fz hc => ?_, fun es c hc => ?_⟩
      · rw [a1] at hc; cases hc; simp
      · rw [a1] at hc; cases hc
    · cases ao with
      | none => simp [rowOf] at hj
      | some a =>
        simp [rowOf] at hj
        subst hj
        obtain ⟨cur, h1, h2⟩ := HAO.out a rfl
        refine ⟨h2, fun cs' t fz hc => ?_, fun es c hc => ?_⟩
        · rw [h1] at hc; cases hc; simp
        · rw [h1] at hc; cases hc
  refine ⟨rfl, ⟨_, .slice (some ⟨g, 0, none⟩) (subs.length + 1) cap, rv, wv, hUe, ?_, ?_, ?_, ?_, ?_, ?_, f.row a8 (by decide), f.row a9 (by decide), f.maps _ _ _ a10 (by simp), f.maps _ _ _ a11 (by simp), a12, a13, a14, a15⟩, f⟩
  · have : 14 < cs.size := (Array.getElem?_eq_some_iff.1 a2).1
    rw [Array.getElem?_setIfInBounds_self_of_lt this]
  · rw [Array.getElem?_setIfInBounds_ne (by decide)]; exact a3
  · rw [Array.getElem?_setIfInBounds_ne (by decide)]; exact a4
  · rw [Array.getElem?_setIfInBounds_ne (by decide)]; exact a5
  · rw [Array.getElem?_setIfInBounds_ne (by decide)]; exact a6
  · rw [flatS_snoc, show (subs ++ [p]).length = subs.length + 1 from by simp]
    exact hUo

end Go.Proofs.Qxb6613471a
