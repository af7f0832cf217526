import Derived.Test.Qxb6613067aDoorNr
namespace Go.Proofs.Qxb6613067aDoor
open Go.RowKit

theorem assert_sr (a : Addr) (w : World) : (Instr.typeAssert (.iface 36 (.pointer (some a))) 72 59 true).run Tryd.prog w = .ok (.tuple #[.pointer none, .bool false]) w := by kernel_rfl

set_option maxHeartbeats 400000 in
theorem nrs_small (ks : Nat) (x : Int) (w : World) (_hx : x < 16) :
    Calls Tryd.prog 37 #[.iface 36 (.pointer (some ⟨ks, 0, none⟩)), .int .i64 x] w fun e w' =>
      ∃ Z : List Value, Z.length = 16 ∧ e = .returned (.pointer (some ⟨w.heap.size, 0, none⟩)) ∧
        w'.heap[w.heap.size]? = some (.cells #[.slice (some ⟨w.heap.size + 1, 0, none⟩) 16 16, .iface 36 (.pointer (some ⟨ks, 0, none⟩)), .int .i64 0, .int .i64 0, .nilIface, .int .i64 (-1), .int .i64 (-1)] 75 (0, 0)) ∧
        w'.heap[w.heap.size + 1]? = some (.cells Z.toArray 5 (0, 0)) ∧ Kept [] w w' := by
  obtain ⟨Z, hZ, hmk⟩ := make_bytes 16 (by omega)
  have hmk' : ∀ w : World, (Instr.makeSlice 42 (.int .i64 16) (.int .i64 16)).run Tryd.prog w = .ok (.slice (some ⟨w.heap.size, 0, none⟩) 16 16) (w.alloc (.cells Z.toArray 5)) := hmk
  have HZ := hide hZ
  clear hZ hmk
  have hta := assert_sr
  have hk1 : ∀ o, (((w.alloc o).alloc (.cells Z.toArray 5)).heap[w.heap.size]? = some o) := fun o => by
    rw [Below.heap_alloc (w.alloc o) _ _ (by simp)]; exact heap_alloc_new w o
  have HK := hide hk1
  clear hk1
  go_enter Tryd.func37, Tryd.ntmps37
  go_wp2_with fail
  refine (reset_any w.heap.size (w.heap.size + 1) ks 16 _ _ _ _ _ _ _ _ (by exact HK.out _)).mono ?_
  rintro e w2 ⟨rfl, a1, a2⟩
  have A1 := hide a1
  clear a1 hmk' hta
  go_wp2
  go_ret
  refine ⟨Z, HZ.out, rfl, A1.out, ?_, ?_⟩
  · exact a2.at (k := w.heap.size + 1) (by have := heap_alloc_new (w.alloc (.cells #[.slice none 0 0, .nilIface, .int .i64 0, .int .i64 0, .nilIface, .int .i64 0, .int .i64 0] 75)) (.cells Z.toArray 5); simpa using this) (by simp)
  · exact ((((Kept.refl _ _).alloc _).alloc _).trans a2).dropNew (S := []) (Nat.le_refl _)

set_option maxHeartbeats 400000 in
theorem nrs_big (ks N : Nat) (w : World) (_hN : 16 ≤ N) (hN2 : N ≤ 65538) :
    Calls Tryd.prog 37 #[.iface 36 (.pointer (some ⟨ks, 0, none⟩)), .int .i64 N] w fun e w' =>
      ∃ Z : List Value, Z.length = N ∧ e = .returned (.pointer (some ⟨w.heap.size, 0, none⟩)) ∧
        w'.heap[w.heap.size]? = some (.cells #[.slice (some ⟨w.heap.size + 1, 0, none⟩) N N, .iface 36 (.pointer (some ⟨ks, 0, none⟩)), .int .i64 0, .int .i64 0, .nilIface, .int .i64 (-1), .int .i64 (-1)] 75 (0, 0)) ∧
        w'.heap[w.heap.size + 1]? = some (.cells Z.toArray 5 (0, 0)) ∧ Kept [] w w' := by
  obtain ⟨Z, hZ, hmk⟩ := make_bytes N (by omega)
  have hmk' := hmk
  have hnl : ¬ (N : Int) < 16 := by omega
  have HZ := hide hZ
  clear hZ hmk
  have hta := assert_sr
  have hk1 : ∀ o, (((w.alloc o).alloc (.cells Z.toArray 5)).heap[w.heap.size]? = some o) := fun o => by
    rw [Below.heap_alloc (w.alloc o) _ _ (by simp)]; exact heap_alloc_new w o
  have HK := hide hk1
  clear hk1
  go_enter Tryd.func37, Tryd.ntmps37
  go_wp2_with fail
  refine (reset_any w.heap.size (w.heap.size + 1) ks N _ _ _ _ _ _ _ _ (by exact HK.out _)).mono ?_
  rintro e w2 ⟨rfl, a1, a2⟩
  have A1 := hide a1
  clear a1 hmk' hta
  go_wp2
  go_ret
  refine ⟨Z, HZ.out, rfl, A1.out, ?_, ?_⟩
  · exact a2.at (k := w.heap.size + 1) (by have := heap_alloc_new (w.alloc (.cells #[.slice none 0 0, .nilIface, .int .i64 0, .int .i64 0, .nilIface, .int .i64 0, .int .i64 0] 75)) (.cells Z.toArray 5); simpa using this) (by simp)
  · exact ((((Kept.refl _ _).alloc _).alloc _).trans a2).dropNew (S := []) (Nat.le_refl _)

end Go.Proofs.Qxb6613067aDoor
