import Derived.Test.Qxb6613067aDoorRe
import Derived.Deep.OwnRows
namespace Go.Proofs.Qxb6613067aDoor
open Go.RowKit

theorem info5z : (Tryd.prog.info? 5).map (fun i => (i.zero, i.size, i.bytes)) = some (some (.int .u8 0), 1, 1) := by kernel_rfl
/-- 'make([]byte, n)'. -/
theorem make_bytes (n : Nat) (hn : n ≤ 2097152) : ∃ Z : List Value, Z.length = n ∧ ∀ w : World, (Instr.makeSlice 42 (.int .i64 (n : Int)) (.int .i64 (n : Int))).run Tryd.prog w = .ok (.slice (some ⟨w.heap.size, 0, none⟩) n n) (w.alloc (.cells Z.toArray 5)) := by
  refine ⟨(madeCells #[.int .u8 0] n).toList, by simp [madeCells], fun w => ?_⟩
  have := run_make_row' (P := Tryd.prog) 42 5 (.int .u8 0) 1 Tryd.underlying42 info5z rfl .i64 .i64 n (by omega) (by omega) w
  rw [this, Array.toArray_toList]
theorem Kept.dropNew {S : List Nat} {w w' : World} {g : Nat} (h : Kept (S ++ [g]) w w') (hg : w.heap.size ≤ g) : Kept S w w' :=
  ⟨h.os, h.tape, h.output, h.size, fun k hk hS => h.block k hk (by simp [hS]; omega)⟩
theorem splice_all {α : Type} (Z cs : List α) (h : cs.length = Z.length) : splice Z 0 cs = cs := by simp [splice, h]

set_option maxHeartbeats 400000 in
theorem rf_ok (kr ks kb N pos pb L : Nat) (s : ByteArray) (pcur : List Value) (w : World) (hRd : Rd kr ks kb N s pos w) (hN0 : 1 ≤ N) (hN : N ≤ 2097152) (hs : s.size ≤ 2097152)
    (hpb : w.heap[pb]? = some (.cells pcur.toArray 5 (0, 0))) (hfit : pcur.length = L) (hpc2 : L ≤ 2097152)
    (hne1 : pb ≠ kr) (hne2 : pb ≠ kb) (hne3 : kr ≠ kb) (hne4 : pb ≠ ks) (hne5 : kr ≠ ks) (hne6 : kb ≠ ks) (hpos : pos + L ≤ s.size) :
    Calls Tryd.prog 33 #[.iface 59 (.pointer (some ⟨kr, 0, none⟩)), .slice (some ⟨pb, 0, none⟩) L L] w fun e w' =>
      e = .returned (.tuple #[.int .i64 L, .nilIface]) ∧ Rd kr ks kb N s (pos + L) w' ∧
        w'.heap[pb]? = some (.cells (splice pcur 0 (cut s pos L)).toArray 5 (0, 0)) ∧ Kept [kr, ks, kb, pb] w w' := by
  have HR := hide hRd
  have HP := hide hpb
  clear hRd hpb
  go_enter Tryd.func33, Tryd.ntmps33
  go_wp2_with (go_at_call 38; refine (ra_ok kr ks kb N pos pb L L s pcur _ HR.out hN0 hN hs HP.out hfit (Nat.le_refl _) hpc2 hne1 hne2 hne3 hne4 hne5 hne6 hpos).mono ?_; rintro e w2 ⟨rfl, a1, a2, a3⟩; have A1 := hide a1; have A2 := hide a2; clear a1 a2)
  go_ret2
  exact ⟨rfl, A1.out, A2.out, a3⟩

set_option maxHeartbeats 400000 in
theorem rf_err (kr ks kb N pos pb L : Nat) (s : ByteArray) (pcur : List Value) (ea ua : Addr) (w : World) (hRd : Rd kr ks kb N s pos w) (hN0 : 1 ≤ N) (hN : N ≤ 2097152) (hs : s.size ≤ 2097152)
    (hpb : w.heap[pb]? = some (.cells pcur.toArray 5 (0, 0))) (hfit : pcur.length = L) (hpc2 : L ≤ 2097152)
    (hne1 : pb ≠ kr) (hne2 : pb ≠ kb) (hne3 : kr ≠ kb) (hne4 : pb ≠ ks) (hne5 : kr ≠ ks) (hne6 : kb ≠ ks) (hpos1 : pos ≤ s.size) (hpos : s.size < pos + L)
    (heof : w.cell? ⟨1, 0, none⟩ = some (.iface 104 (.pointer (some ea)))) (hueof : w.cell? ⟨2, 0, none⟩ = some (.iface 104 (.pointer (some ua))))
    (hS1 : 1 ∉ [kr, ks, kb, pb]) (hS2 : 2 ∉ [kr, ks, kb, pb]) :
    Calls Tryd.prog 33 #[.iface 59 (.pointer (some ⟨kr, 0, none⟩)), .slice (some ⟨pb, 0, none⟩) L L] w fun e w' =>
      ∃ (n : Nat) (xa : Addr), e = .returned (.tuple #[.int .i64 n, .iface 104 (.pointer (some xa))]) ∧ Rd kr ks kb N s s.size w' ∧ Kept [kr, ks, kb, pb] w w' := by
  have HR := hide hRd
  have HP := hide hpb
  have HE := hide heof
  have HU := hide hueof
  clear hRd hpb heof hueof
  go_enter Tryd.func33, Tryd.ntmps33
  go_wp2_with (go_at_call 38; refine (ra_err kr ks kb N pos pb L L s pcur ea ua _ HR.out hN0 hN hs HP.out hfit (Nat.le_refl _) hpc2 hne1 hne2 hne3 hne4 hne5 hne6 hpos1 hpos HE.out HU.out hS1 hS2).mono ?_; rintro e w2 ⟨n, xa, rfl, a1, a3⟩; have A1 := hide a1; clear a1)
  go_ret2
  exact ⟨n, xa, rfl, A1.out, a3⟩

set_option maxHeartbeats 400000 in
theorem rb_ok (kl kr ks kb N pos L : Nat) (m : Int) (s : ByteArray) (w : World) (hkl : w.heap[kl]? = some (.cells #[.pointer (some ⟨kr, 0, none⟩), .int .i64 m, .bool false] 61 (0, 0)))
    (hRd : Rd kr ks kb N s pos w) (hN0 : 1 ≤ N) (hN : N ≤ 2097152) (hs : s.size ≤ 2097152)
    (hne3 : kr ≠ kb) (hne5 : kr ≠ ks) (hne6 : kb ≠ ks) (hpos : pos + L ≤ s.size) :
    Calls Tryd.prog 21 #[.pointer (some ⟨kl, 0, none⟩), .int .i64 L] w fun e w' =>
      e = .returned (.tuple #[.slice (some ⟨w.heap.size, 0, none⟩) L L, .nilIface]) ∧ Rd kr ks kb N s (pos + L) w' ∧
        w'.heap[w.heap.size]? = some (.cells (cut s pos L).toArray 5 (0, 0)) ∧ Kept [kr, ks, kb] w w' := by
  obtain ⟨Z, hZ, hmk⟩ := make_bytes L (by omega)
  have c0 : w.cell? ⟨kl, 0, none⟩ = some (.pointer (some ⟨kr, 0, none⟩)) := by rw [Lib.cell_of_heap hkl]; rfl
  have lkl := lt_of_heap hkl
  have hR1 : Rd kr ks kb N s pos (w.alloc (.cells Z.toArray 5)) := hRd.kept (S := []) ((Kept.refl _ _).alloc _) (by simp) (by simp) (by simp)
  obtain ⟨l1, l2, l3⟩ : kr < w.heap.size ∧ ks < w.heap.size ∧ kb < w.heap.size := by
    obtain ⟨R, W, i, pr, lb, lr, cur, a1, a2, a3, -⟩ := hRd
    exact ⟨lt_of_heap a1, lt_of_heap a2, lt_of_heap a3⟩
  have hpb : (w.alloc (.cells Z.toArray 5)).heap[w.heap.size]? = some (.cells Z.toArray 5 (0, 0)) := heap_alloc_new w _
  have hsp : splice Z 0 (cut s pos L) = cut s pos L := splice_all _ _ (by rw [cut_length s pos L hpos, hZ])
  have HSP := hide hsp
  have HR := hide hR1
  have HP := hide hpb
  have HZ := hide hZ
  clear hRd hkl hR1 hpb hZ hsp
  go_enter Tryd.func21, Tryd.ntmps21
  go_wp2_with fail
  refine (rf_ok kr ks kb N pos w.heap.size L s Z _ HR.out hN0 hN hs HP.out HZ.out (by omega) (by omega) (by omega) hne3 (by omega) hne5 hne6 hpos).mono ?_
  rintro e w2 ⟨rfl, a1, a2, a3⟩
  have A1 := hide a1
  have A2 := hide a2
  clear a1 a2 c0 hmk
  go_wp2
  go_ret2
  refine ⟨rfl, A1.out, ?_, (((Kept.refl _ _).alloc _).trans a3).dropNew (S := [kr, ks, kb]) (Nat.le_refl _)⟩
  have := A2.out
  rw [HSP.out] at this
  exact this

set_option maxHeartbeats 400000 in
theorem rb_err (kl kr ks kb N pos L : Nat) (m : Int) (s : ByteArray) (ea ua : Addr) (w : World) (hkl : w.heap[kl]? = some (.cells #[.pointer (some ⟨kr, 0, none⟩), .int .i64 m, .bool false] 61 (0, 0)))
    (hRd : Rd kr ks kb N s pos w) (hN0 : 1 ≤ N) (hN : N ≤ 2097152) (hs : s.size ≤ 2097152) (hL : L ≤ 2097152)
    (hne3 : kr ≠ kb) (hne5 : kr ≠ ks) (hne6 : kb ≠ ks) (hpos1 : pos ≤ s.size) (hpos : s.size < pos + L)
    (heof : w.cell? ⟨1, 0, none⟩ = some (.iface 104 (.pointer (some ea)))) (hueof : w.cell? ⟨2, 0, none⟩ = some (.iface 104 (.pointer (some ua))))
    (h2r : 2 < kr) (h2s : 2 < ks) (h2b : 2 < kb) :
    Calls Tryd.prog 21 #[.pointer (some ⟨kl, 0, none⟩), .int .i64 L] w fun e w' =>
      ∃ xa : Addr, e = .returned (.tuple #[.slice none 0 0, .iface 104 (.pointer (some xa))]) ∧ Rd kr ks kb N s s.size w' ∧ Kept [kr, ks, kb] w w' := by
  obtain ⟨Z, hZ, hmk⟩ := make_bytes L (by omega)
  have c0 : w.cell? ⟨kl, 0, none⟩ = some (.pointer (some ⟨kr, 0, none⟩)) := by rw [Lib.cell_of_heap hkl]; rfl
  have lkl := lt_of_heap hkl
  have hR1 : Rd kr ks kb N s pos (w.alloc (.cells Z.toArray 5)) := hRd.kept (S := []) ((Kept.refl _ _).alloc _) (by simp) (by simp) (by simp)
  obtain ⟨l1, l2, l3⟩ : kr < w.heap.size ∧ ks < w.heap.size ∧ kb < w.heap.size := by
    obtain ⟨R, W, i, pr, lb, lr, cur, a1, a2, a3, -⟩ := hRd
    exact ⟨lt_of_heap a1, lt_of_heap a2, lt_of_heap a3⟩
  have hpb : (w.alloc (.cells Z.toArray 5)).heap[w.heap.size]? = some (.cells Z.toArray 5 (0, 0)) := heap_alloc_new w _
  have hK0 : Kept [] w (w.alloc (.cells Z.toArray 5)) := (Kept.refl _ _).alloc _
  have HE := hide (hK0.cell heof (by simp))
  have HU := hide (hK0.cell hueof (by simp))
  have HR := hide hR1
  have HP := hide hpb
  have HZ := hide hZ
  clear hRd hkl hR1 hpb hZ heof hueof hK0
  go_enter Tryd.func21, Tryd.ntmps21
  go_wp2_with fail
  refine (rf_err kr ks kb N pos w.heap.size L s Z ea ua _ HR.out hN0 hN hs HP.out HZ.out (by omega) (by omega) (by omega) hne3 (by omega) hne5 hne6 hpos1 hpos HE.out HU.out (by simp; omega) (by simp; omega)).mono ?_
  rintro e w2 ⟨n, xa, rfl, a1, a3⟩
  have A1 := hide a1
  clear a1 c0 hmk
  go_wp2
  go_ret2
  exact ⟨xa, rfl, A1.out, (((Kept.refl _ _).alloc _).trans a3).dropNew (S := [kr, ks, kb]) (Nat.le_refl _)⟩

end Go.Proofs.Qxb6613067aDoor
