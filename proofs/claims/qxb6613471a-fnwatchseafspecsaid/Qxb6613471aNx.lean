import Derived.Test.Qxb6613471aId
namespace Go.Proofs.Qxb6613471a
open Go.RowKit

theorem own_nil (w : World) (B e size : Nat) : w.ownsRow B e size (.slice none 0 0) 0 [] := ⟨by simp, Or.inl ⟨rfl, rfl⟩⟩

set_option maxHeartbeats 400000 in
theorem newx_any (w : World) :
    Calls Try.prog 6 #[] w fun e w' => ∃ eB mr mw, e = .returned (.pointer (some ⟨eB, 0, none⟩)) ∧ Ex w.heap.size eB mr mw [] [] #[] 0 [] w' ∧ Kept [] w w' := by
  have hmm := @run_makeMap Try.prog
  go_enter Try.func6, Try.ntmps6
  go_wp2
  go_ret
  refine ⟨w.heap.size + 2, w.heap.size, w.heap.size + 1, rfl, ?_, ((((Kept.refl _ _).alloc _).alloc _).alloc _)⟩
  have hm1 : ∀ o o' : Obj, (((w.alloc o).alloc o').heap)[w.heap.size]? = some o := fun o o' => (Below.heap_alloc _ _ _ (by simp)).trans (heap_alloc_new w o)
  have hm2 : ∀ o o' : Obj, (((w.alloc o).alloc o').heap)[w.heap.size + 1]? = some o' := fun o o' => by
    have := heap_alloc_new (w.alloc o) o'
    simpa using this
  have hm3 : ∀ o : Obj, (((w.alloc (.map #[] 0)).alloc (.map #[] 0)).alloc o).heap[w.heap.size + 2]? = some o := fun o => by
    have := heap_alloc_new ((w.alloc (.map #[] 0)).alloc (.map #[] 0)) o
    simpa using this
  refine ⟨_, .slice none 0 0, .slice none 0 0, .slice none 0 0, hm3 _, rfl, rfl, rfl, rfl, rfl, own_nil _ _ _ _, own_nil _ _ _ _, own_nil _ _ _ _, ?_, ?_, by omega, by omega, by omega, by omega⟩
  · exact (Below.heap_alloc _ _ _ (by simp; omega)).trans (hm1 _ _)
  · exact (Below.heap_alloc _ _ _ (by simp)).trans (hm2 _ _)

theorem newrun_any (n : Nat) (w : World) :
    Calls Try.prog 10 #[.int .u32 (n : Int)] w fun e w' => e = .returned (.pointer (some ⟨w.heap.size, 0, none⟩)) ∧ w'.heap[w.heap.size]? = some (.cells (runCells n).toArray 102 (0, 0)) ∧ Kept [] w w' := by
  go_enter Try.func10, Try.ntmps10
  go_wp2
  go_ret
  exact ⟨rfl, heap_alloc_new _ _, (Kept.refl _ _).alloc _⟩

theorem bit_any (w : World) : Calls Try.prog 25 #[.int .u8 8] w fun e w' => e = .returned (.int .u16 256) ∧ w' = w := by
  go_enter Try.func25, Try.ntmps25
  go_wp2
  go_ret
  exact ⟨rfl, rfl⟩

theorem runwatch_any (rb : Nat) (n : Nat) (w : World) (h : w.cell? ⟨rb, 15, none⟩ = some (.int .u32 (n : Int))) :
    Calls Try.prog 13 #[.pointer (some ⟨rb, 0, none⟩)] w fun e w' => e = .returned (.int .u32 (n : Int)) ∧ w' = w := by
  go_enter Try.func13, Try.ntmps13
  go_wp2
  go_ret
  exact ⟨rfl, rfl⟩

theorem count_any (B eB mr mw : Nat) (subs : List (Nat × Nat)) (runs : List Nat) (rs : Array MapEntry) (rc : Nat) (Ws : List Wt) (w : World) (h : Ex B eB mr mw subs runs rs rc Ws w) :
    Calls Try.prog 11 #[.pointer (some ⟨eB, 0, none⟩)] w fun e w' => e = .returned (.int .i64 (Ws.length : Int)) ∧ w' = w := by
  have hB := h.lt
  obtain ⟨cs, sv, rv, wv, a1, a2, a3, a4, a5, a6, a7, a8, a9, a10, a11, a12, a13, a14, a15⟩ := h
  obtain ⟨ao, cap0, rfl, hao⟩ := own_form a9
  have c22 := cell_get a1 a5
  clear a1 a2 a3 a4 a5 a6 a7 a8 a9 a10 a11 a12 a13 a14 a15 hao
  have hlt := hB.2.1
  go_enter Try.func11, Try.ntmps11
  go_wp2
  go_ret
  exact ⟨rfl, rfl⟩

end Go.Proofs.Qxb6613471a
