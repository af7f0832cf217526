import Derived.Test.Qxb6613471aId
import Derived.BigQuiet
import Derived.Laws.Rows
namespace Go.Proofs.Qxb6613471a
open Go.RowKit

theorem flat_get {α : Type} (f : α → List Value) (m : Nat) (hm : ∀ a, (f a).length = m) : ∀ (l : List α) (i j : Nat) (a : α), l[i]? = some a → j < m → (l.flatMap f)[i * m + j]? = (f a)[j]?
  | [], i, j, a, h, _ => by simp at h
  | b :: r, 0, j, a, h, hj => by
    simp only [List.getElem?_cons_zero, Option.some.injEq] at h
    subst h
    rw [List.flatMap_cons, List.getElem?_append_left (by rw [hm]; omega)]
    simp
  | b :: r, i + 1, j, a, h, hj => by
    simp only [List.getElem?_cons_succ] at h
    rw [List.flatMap_cons, List.getElem?_append_right (by rw [hm, Nat.add_mul]; omega), hm, show (i + 1) * m + j - m = i * m + j from by rw [Nat.add_mul]; omega]
    exact flat_get f m hm r i j a h hj

theorem row_get {α : Type} {w : World} {B e m : Nat} {v : Value} {l : List α} {f : α → List Value} (hm : ∀ a, (f a).length = m) (h : w.ownsRow B e m v l.length (l.flatMap f)) {i : Nat} {a : α} (hi : l[i]? = some a) :
    ∃ g cap, v = .slice (some ⟨g, 0, none⟩) l.length cap ∧ g < w.heap.size ∧ ∀ (j : Nat) (u : Value), (f a)[j]? = some u → w.cell? ⟨g, i * m + j, none⟩ = some u := by
  have hlt : i < l.length := (List.getElem?_eq_some_iff.1 hi).1
  obtain ⟨g, cap, rfl, hb, hg⟩ := h.form (by omega)
  refine ⟨g, cap, rfl, hg, fun j u hj => ?_⟩
  have hj2 : j < m := by rw [← hm a]; exact (List.getElem?_eq_some_iff.1 hj).1
  rw [h.cellAt _ (by
    have : i * m + m ≤ l.length * m := by rw [← Nat.succ_mul]; exact Nat.mul_le_mul_right m hlt
    omega), flat_get f m hm l i j a hi hj2]
  exact hj

set_option maxHeartbeats 400000 in
theorem at_any (B eB mr mw : Nat) (subs : List (Nat × Nat)) (runs : List Nat) (rs : Array MapEntry) (rc : Nat) (Ws : List Wt) (i : Nat) (v : Wt) (w : World) (h : Ex B eB mr mw subs runs rs rc Ws w) (hi : Ws[i]? = some v) :
    Calls Try.prog 14 #[.pointer (some ⟨eB, 0, none⟩), .int .u32 (i : Int)] w fun e w' =>
      e = .returned (.agg #[.string v.iss, .string v.comp, .string v.ue, .string v.sn, .string v.fl, .int .u8 v.ans, .int .u16 v.brk]) ∧ Kept [] w w' := by
  have hB := h.lt
  obtain ⟨cs, sv, rv, wv, a1, a2, a3, a4, a5, a6, a7, a8, a9, a10, a11, a12, a13, a14, a15⟩ := h
  obtain ⟨g, cap, rfl, hg, hc⟩ := row_get (f := fun a : Wt => a.arr.toList) (fun a => by simp [Wt.arr]) a9 hi
  have c22 := cell_get a1 a5
  have hil : i < Ws.length := (List.getElem?_eq_some_iff.1 hi).1
  have y0 : w.cell? ⟨g, i * 7, none⟩ = some (.string v.iss) := hc 0 _ rfl
  have y1 := hc 1 _ rfl
  have y2 := hc 2 _ rfl
  have y3 := hc 3 _ rfl
  have y4 := hc 4 _ rfl
  have y5 := hc 5 _ rfl
  have y6 := hc 6 _ rfl
  clear a1 a2 a3 a4 a5 a6 a7 a8 a9 a10 a11 a12 a13 a14 a15 hc hi
  have hlt := hB.2.1
  have hk0 : (0 : Int) ≤ (i : Int) := by omega
  have hk1 : (i : Int) < (Ws.length : Int) := by omega
  go_enter Try.func14, Try.ntmps14
  go_wp2
  have hh : ∀ o o' : Obj, ((w.alloc o).alloc o').heap[w.heap.size]? = some o := fun o o' => (Below.heap_alloc _ _ _ (by simp)).trans (heap_alloc_new w o)
  refine bodyPost_ret (results_cell_row rfl _ _ w.heap.size 29 _ (0, 0) _ rfl (hh _ _) Try.underlying29 rfl (by kernel_rfl)) rfl ?_
  exact ⟨rfl, ((Kept.refl _ _).alloc _).alloc _⟩

theorem number_any (g o len cap : Nat) (w : World) (hl : 4 ≤ len) (c0 : w.cell? ⟨g, o, none⟩ = some (.int .u8 0)) (c1 : w.cell? ⟨g, o + 1, none⟩ = some (.int .u8 0)) (c2 : w.cell? ⟨g, o + 2, none⟩ = some (.int .u8 0)) (c3 : w.cell? ⟨g, o + 3, none⟩ = some (.int .u8 0)) :
    Calls Try.prog 27 #[.slice (some ⟨g, o, none⟩) len cap] w fun e w' => e = .returned (.int .u32 0) ∧ ∃ k, w' = w.drewN k := by
  have h0 : (0 : Int) < (len : Int) := by omega
  have h1 : (1 : Int) < (len : Int) := by omega
  have h2 : (2 : Int) < (len : Int) := by omega
  have h3 : (3 : Int) < (len : Int) := by omega
  go_enter Try.func27, Try.ntmps27
  go_wp2
  go_quiet (fail)
  go_wp2
  go_ret
  exact ⟨rfl, _, rfl⟩

theorem runat_any (B eB mr mw : Nat) (subs : List (Nat × Nat)) (n : Nat) (rs : Array MapEntry) (rc : Nat) (Ws : List Wt) (sB N j : Nat) (w : World) (h : Ex B eB mr mw subs [n] rs rc Ws w) (hs : ∀ k, k < 4 * N → w.cell? ⟨sB, k, none⟩ = some (.int .u8 0)) (hj : j < N) (hN : N ≤ 100000) :
    Calls Try.prog 23 #[.pointer (some ⟨eB, 0, none⟩), .slice (some ⟨sB, 0, none⟩) (4 * N) (4 * N), .int .i64 (j : Int)] w fun e w' =>
      ∃ gr k, e = .returned (.pointer (some ⟨gr, 0, none⟩)) ∧ w' = w.drewN k ∧ w.cell? ⟨gr, 15, none⟩ = some (.int .u32 (n : Int)) := by
  have hB := h.lt
  obtain ⟨cs, sv, rv, wv, a1, a2, a3, a4, a5, a6, a7, a8, a9, a10, a11, a12, a13, a14, a15⟩ := h
  obtain ⟨gr, cap, rfl, hg, hc⟩ := row_get (f := runCells) (i := 0) (fun a => rfl) a8 rfl
  have c20 := cell_get a1 a3
  have y : w.cell? ⟨gr, 15, none⟩ = some (.int .u32 (n : Int)) := hc 15 _ rfl
  have HY := hide y
  have HS := hide hs
  clear a1 a2 a3 a4 a5 a6 a7 a8 a9 a10 a11 a12 a13 a14 a15 hc hs y
  have hlt := hB.2.1
  have hk0 : (0 : Int) ≤ (j : Int) := by omega
  have hw : IntKind.i64.wrap (4 * (j : Int)) = ((4 * j : Nat) : Int) := by rw [IntKind.wrap_i64]; omega
  have hk1 : ((4 * j : Nat) : Int) ≤ ((4 * N : Nat) : Int) := by omega
  have hk2 : (0 : Int) ≤ ((4 * j : Nat) : Int) := by omega
  go_enter Try.func23, Try.ntmps23
  go_wp2
  go_quiet (first | (go_at_call 27; refine Calls.quiet_of (number_any sB (4 * j) (4 * N - 4 * j) _ _ (by omega) (by exact HS.out _ (by omega)) (by exact HS.out _ (by omega)) (by exact HS.out _ (by omega)) (by exact HS.out _ (by omega)))))
  go_wp2
  go_ret
  exact ⟨_, _, rfl, rfl, HY.out⟩

end Go.Proofs.Qxb6613471a
