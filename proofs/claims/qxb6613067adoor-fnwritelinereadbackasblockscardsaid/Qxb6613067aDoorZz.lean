import Derived.Test.Qxb6613067aDoorNw
namespace Go.Proofs.Qxb6613067aDoor
open Go.RowKit

/-- The buffer's size at the limit m. -/
def bufN (m : Int) : Nat := (max (m + 2) 16).toNat
theorem bufN_bd (m : Int) (h : m ≤ 65536) : 16 ≤ bufN m ∧ bufN m ≤ 65538 := by unfold bufN; omega

theorem nrs_any (ks : Nat) (m : Int) (w : World) (hm1 : m ≤ 65536) :
    Calls Tryd.prog 37 #[.iface 36 (.pointer (some ⟨ks, 0, none⟩)), .int .i64 (m + 2)] w fun e w' =>
      ∃ Z : List Value, Z.length = bufN m ∧ e = .returned (.pointer (some ⟨w.heap.size, 0, none⟩)) ∧
        w'.heap[w.heap.size]? = some (.cells #[.slice (some ⟨w.heap.size + 1, 0, none⟩) (bufN m) (bufN m), .iface 36 (.pointer (some ⟨ks, 0, none⟩)), .int .i64 0, .int .i64 0, .nilIface, .int .i64 (-1), .int .i64 (-1)] 75 (0, 0)) ∧
        w'.heap[w.heap.size + 1]? = some (.cells Z.toArray 5 (0, 0)) ∧ Kept [] w w' := by
  have hb := bufN_bd m hm1
  by_cases h : m + 2 < 16
  · have e : bufN m = 16 := by unfold bufN; omega
    rw [e]; exact nrs_small ks (m + 2) w h
  · have e : m + 2 = (bufN m : Int) := by unfold bufN; omega
    rw [e]; exact nrs_big ks (bufN m) w hb.1 hb.2

set_option maxHeartbeats 400000 in
theorem nlr_any (ks : Nat) (m : Int) (w : World) (hm0 : -9223372036854775808 ≤ m) (hm1 : m ≤ 65536) :
    Calls Tryd.prog 30 #[.iface 36 (.pointer (some ⟨ks, 0, none⟩)), .int .i64 m] w fun e w' =>
      ∃ (Z : List Value) (kl : Nat), Z.length = bufN m ∧ e = .returned (.pointer (some ⟨kl, 0, none⟩)) ∧ w.heap.size + 2 ≤ kl ∧
        w'.heap[kl]? = some (.cells #[.pointer (some ⟨w.heap.size, 0, none⟩), .int .i64 m, .bool false] 61 (0, 0)) ∧
        w'.heap[w.heap.size]? = some (.cells #[.slice (some ⟨w.heap.size + 1, 0, none⟩) (bufN m) (bufN m), .iface 36 (.pointer (some ⟨ks, 0, none⟩)), .int .i64 0, .int .i64 0, .nilIface, .int .i64 (-1), .int .i64 (-1)] 75 (0, 0)) ∧
        w'.heap[w.heap.size + 1]? = some (.cells Z.toArray 5 (0, 0)) ∧ Kept [] w w' := by
  go_enter Tryd.func30, Tryd.ntmps30
  go_wp2_with fail
  refine (nrs_any ks m w hm1).mono ?_
  rintro e w2 ⟨Z, hZ, rfl, a1, a2, a3⟩
  have l2 := lt_of_heap a2
  have HZ := hide hZ
  have A1 := hide a1
  have A2 := hide a2
  clear hZ a1 a2
  go_wp2
  go_ret
  have k4 : Kept [] w2 (w2.alloc (.cells #[.pointer (some ⟨w.heap.size, 0, none⟩), .int .i64 m, .bool false] 61)) := (Kept.refl _ _).alloc _
  exact ⟨Z, w2.heap.size, HZ.out, rfl, by omega, heap_alloc_new w2 _, k4.at A1.out (by simp), k4.at A2.out (by simp), a3.trans k4⟩

set_option maxHeartbeats 400000 in
theorem zz_any (s : ByteArray) (m : Int) (w : World) (hm0 : -9223372036854775808 ≤ m) (hm1 : m ≤ 65536) :
    Calls Tryd.prog 16 #[.string s, .int .i64 m] w fun e w' =>
      ∃ (Z : List Value) (kl : Nat), Z.length = bufN m ∧ e = .returned (.tuple #[.pointer (some ⟨kl, 0, none⟩), .pointer (some ⟨w.heap.size, 0, none⟩)]) ∧ w.heap.size + 3 ≤ kl ∧
        w'.heap[kl]? = some (.cells #[.pointer (some ⟨w.heap.size + 1, 0, none⟩), .int .i64 m, .bool false] 61 (0, 0)) ∧
        w'.heap[w.heap.size + 1]? = some (.cells #[.slice (some ⟨w.heap.size + 2, 0, none⟩) (bufN m) (bufN m), .iface 36 (.pointer (some ⟨w.heap.size, 0, none⟩)), .int .i64 0, .int .i64 0, .nilIface, .int .i64 (-1), .int .i64 (-1)] 75 (0, 0)) ∧
        w'.heap[w.heap.size]? = some (.cells #[.string s, .int .i64 0, .int .i64 (-1)] 70 (0, 0)) ∧
        w'.heap[w.heap.size + 2]? = some (.cells Z.toArray 5 (0, 0)) ∧ Kept [] w w' := by
  have hks := heap_alloc_new w (.cells #[.string s, .int .i64 0, .int .i64 (-1)] 70)
  have HK := hide hks
  clear hks
  go_enter Tryd.func16, Tryd.ntmps16
  go_wp2_with (first | (go_at_call 30; refine (nlr_any w.heap.size m _ hm0 hm1).mono ?_; rintro e w2 ⟨Z, kl, hZ, rfl, hkl, a0, a1, a2, a3⟩; have HZ := hide hZ; have A0 := hide a0; have A1 := hide a1; have A2 := hide a2; clear hZ a0 a1 a2) | go_in)
  go_ret2
  have B0 := A0.out
  have B1 := A1.out
  have B2 := A2.out
  simp at B0 B1 B2 hkl
  exact ⟨Z, kl, HZ.out, rfl, by omega, B0, B1, a3.at HK.out (by simp), B2, ((Kept.refl _ _).alloc _).trans a3⟩

/-- A fresh reader. -/
theorem rd_fresh {kr ks kb N : Nat} {s : ByteArray} {w : World} {Z : List Value} {lb lr pr : Int}
    (h1 : w.heap[kr]? = some (.cells #[.slice (some ⟨kb, 0, none⟩) N N, .iface 36 (.pointer (some ⟨ks, 0, none⟩)), .int .i64 0, .int .i64 0, .nilIface, .int .i64 lb, .int .i64 lr] 75 (0, 0)))
    (h2 : w.heap[ks]? = some (.cells #[.string s, .int .i64 0, .int .i64 pr] 70 (0, 0))) (h3 : w.heap[kb]? = some (.cells Z.toArray 5 (0, 0))) (hZ : Z.length = N) : Rd kr ks kb N s 0 w :=
  ⟨0, 0, 0, pr, lb, lr, Z, h1, h2, h3, hZ, by omega, by omega, by omega, by omega, fun j hj => by omega⟩

end Go.Proofs.Qxb6613067aDoor
