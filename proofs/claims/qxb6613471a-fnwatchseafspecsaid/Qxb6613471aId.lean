import Derived.Test.Qxb6613471aIm
namespace Go.Proofs.Qxb6613471a
open Go.RowKit

/-- The watches behind 'id(v)', and v's number. -/
def addW (Ws : List Wt) (v : Wt) : List Wt × Nat := match idxFrom v 0 Ws with | some i => (Ws, i) | none => (Ws ++ [v], Ws.length)

theorem Ex.lt {B eB mr mw : Nat} {subs : List (Nat × Nat)} {runs : List Nat} {rs : Array MapEntry} {rc : Nat} {Ws : List Wt} {w : World} (h : Ex B eB mr mw subs runs rs rc Ws w) : B ≤ eB ∧ eB < w.heap.size ∧ mr ≠ mw ∧ B ≤ w.heap.size := by
  obtain ⟨cs, sv, rv, wv, a1, a2, a3, a4, a5, a6, a7, a8, a9, a10, a11, a12, a13, a14, a15⟩ := h
  have := lt_of_heap a1
  exact ⟨a13, this, a12, by omega⟩

theorem Fr.drew {B : Nat} {T M : List Nat} {a w : World} (h : Fr B T M a w) : Fr B T M a w.drew := ⟨h.os, h.tape, h.output, h.size, h.low, h.tag, h.maps⟩
theorem Fr.drewN {B : Nat} {T M : List Nat} {a w : World} (h : Fr B T M a w) (n : Nat) : Fr B T M a (w.drewN n) := ⟨h.os, h.tape, h.output, h.size, h.low, h.tag, h.maps⟩

theorem id_ex (B eB mr mw : Nat) (subs : List (Nat × Nat)) (runs : List Nat) (rs : Array MapEntry) (rc : Nat) (Ws : List Wt) (v : Wt) (w : World) (h : Ex B eB mr mw subs runs rs rc Ws w) (hn : Ws.length ≤ 1000) :
    Calls Try.prog 19 #[.pointer (some ⟨eB, 22, none⟩), .agg #[.string v.iss, .string v.comp, .string v.ue, .string v.sn, .string v.fl, .int .u8 v.ans, .int .u16 v.brk]] w fun e w' =>
      e = .returned (.int .u32 (addW Ws v).2) ∧ Ex B eB mr mw subs runs rs rc (addW Ws v).1 w' ∧ Fr B [94, 97] [mw] w w' := by
  have hB := h.lt
  have hx := h
  obtain ⟨cs, sv, rv, wv, a1, a2, a3, a4, a5, a6, a7, a8, a9, a10, a11, a12, a13, a14, a15⟩ := h
  cases hi : idxFrom v 0 Ws with
  | some i =>
    have e1 : addW Ws v = (Ws, i) := by simp [addW, hi]
    rw [e1]
    refine (id_hit eB mw Ws v i w (cell_get a1 a6) a11 hB.2.1 hi).mono ?_
    rintro e w' ⟨rfl, k⟩
    exact ⟨rfl, hx.fr (Fr.nil (B := B) (T := []) (M := []) k hB.2.2.2) (by simp) (by simp) (by simp) (by simp) (by simp) (by simp), Fr.nil k hB.2.2.2⟩
  | none =>
    have e1 : addW Ws v = (Ws ++ [v], Ws.length) := by simp [addW, hi]
    rw [e1]
    refine (id_miss B eB mw cs wv Ws v w a1 a5 a6 a9 a11 hB.2.2.2 hn hi).mono ?_
    rintro e w' ⟨rfl, wv', b1, b2, b3, row, k, hrow⟩
    have f : Fr B [94, 97] [mw] w w' := by
      refine Fr.of_kept k hB.2.2.2 (fun j hj => ?_)
      simp only [List.mem_cons] at hj
      rcases hj with rfl | rfl | hj
      · refine ⟨a13, fun cs' t fz hc => ?_, fun es c hc => ?_⟩
        · rw [a1] at hc; cases hc; simp
        · rw [a1] at hc; cases hc
      · refine ⟨a15, fun cs' t fz hc => ?_, fun es c hc => by simp⟩
        rw [a11] at hc; cases hc
      · obtain ⟨h1, cur, h2⟩ := hrow j hj
        refine ⟨h1, fun cs' t fz hc => ?_, fun es c hc => ?_⟩
        · rw [h2] at hc; cases hc; simp
        · rw [h2] at hc; cases hc
    refine ⟨rfl, ⟨cs.setIfInBounds 22 wv', sv, rv, wv', b1, ?_, ?_, ?_, ?_, ?_, f.row a7 (by decide), f.row a8 (by decide), b2, f.maps _ _ _ a10 (by simpa using a12), b3, a12, a13, a14, a15⟩, f⟩
    · rw [Array.getElem?_setIfInBounds_ne (by decide)]; exact a2
    · rw [Array.getElem?_setIfInBounds_ne (by decide)]; exact a3
    · rw [Array.getElem?_setIfInBounds_ne (by decide)]; exact a4
    · have : 22 < cs.size := (Array.getElem?_eq_some_iff.1 a5).1
      rw [Array.getElem?_setIfInBounds_self_of_lt this]
    · rw [Array.getElem?_setIfInBounds_ne (by decide)]; exact a6

theorem boxed_all (v : Wt) {w : World} {b t : Nat} (h : w.heap[b]? = some (.cells #[.string v.iss, .string v.comp, .string v.ue, .string v.sn, .string v.fl, .int .u8 v.ans, .int .u16 v.brk] t (0, 0))) :
    w.heap[b]? = some (.cells #[.string v.iss, .string v.comp, .string v.ue, .string v.sn, .string v.fl, .int .u8 v.ans, .int .u16 v.brk] t (0, 0)) ∧ w.cell? ⟨b, 0, none⟩ = some (.string v.iss) ∧ w.cell? ⟨b, 1, none⟩ = some (.string v.comp) ∧ w.cell? ⟨b, 2, none⟩ = some (.string v.ue) ∧ w.cell? ⟨b, 3, none⟩ = some (.string v.sn) ∧ w.cell? ⟨b, 4, none⟩ = some (.string v.fl) ∧ w.cell? ⟨b, 5, none⟩ = some (.int .u8 v.ans) ∧ w.cell? ⟨b, 6, none⟩ = some (.int .u16 v.brk) :=
  ⟨h, cell_get h rfl, cell_get h rfl, cell_get h rfl, cell_get h rfl, cell_get h rfl, cell_get h rfl, cell_get h rfl⟩

set_option maxHeartbeats 400000 in
theorem wid_any (B eB mr mw : Nat) (subs : List (Nat × Nat)) (runs : List Nat) (rs : Array MapEntry) (rc : Nat) (Ws : List Wt) (v : Wt) (w : World) (h : Ex B eB mr mw subs runs rs rc Ws w) (hn : Ws.length ≤ 1000) :
    Calls Try.prog 7 #[.pointer (some ⟨eB, 0, none⟩), .agg #[.string v.iss, .string v.comp, .string v.ue, .string v.sn, .string v.fl, .int .u8 v.ans, .int .u16 v.brk]] w fun e w' =>
      e = .returned (.int .u32 (addW Ws v).2) ∧ Ex B eB mr mw subs runs rs rc (addW Ws v).1 w' ∧ Fr B [94, 97] [mw] w w' := by
  have hB := h.lt
  have f0 : Fr B [94, 97] [mw] w (w.alloc (.cells #[.string v.iss, .string v.comp, .string v.ue, .string v.sn, .string v.fl, .int .u8 v.ans, .int .u16 v.brk] 29)) := Fr.nil ((Kept.refl _ _).alloc _) hB.2.2.2
  have hx0 : Ex B eB mr mw subs runs rs rc Ws (w.alloc (.cells #[.string v.iss, .string v.comp, .string v.ue, .string v.sn, .string v.fl, .int .u8 v.ans, .int .u16 v.brk] 29)) := h.fr (Fr.nil (B := B) (T := []) (M := []) ((Kept.refl _ _).alloc _) hB.2.2.2) (by simp) (by simp) (by simp) (by simp) (by simp) (by simp)
  have hb := heap_alloc_new w (.cells #[.string v.iss, .string v.comp, .string v.ue, .string v.sn, .string v.fl, .int .u8 v.ans, .int .u16 v.brk] 29)
  have HX := hide hx0
  have HF := hide f0
  have HB := hide hb
  clear h hx0 f0 hb
  go_enter Try.func7, Try.ntmps7
  go_wp2
  generalize w.alloc (.cells #[.string v.iss, .string v.comp, .string v.ue, .string v.sn, .string v.fl, .int .u8 v.ans, .int .u16 v.brk] 29) = V at *
  have x0 : V.cell? ⟨w.heap.size, 0, none⟩ = some (.string v.iss) := by rw [Lib.cell_of_heap HB.out]; rfl
  have x1 : V.cell? ⟨w.heap.size, 1, none⟩ = some (.string v.comp) := by rw [Lib.cell_of_heap HB.out]; rfl
  have x2 : V.cell? ⟨w.heap.size, 2, none⟩ = some (.string v.ue) := by rw [Lib.cell_of_heap HB.out]; rfl
  have x3 : V.cell? ⟨w.heap.size, 3, none⟩ = some (.string v.sn) := by rw [Lib.cell_of_heap HB.out]; rfl
  have x4 : V.cell? ⟨w.heap.size, 4, none⟩ = some (.string v.fl) := by rw [Lib.cell_of_heap HB.out]; rfl
  have x5 : V.cell? ⟨w.heap.size, 5, none⟩ = some (.int .u8 v.ans) := by rw [Lib.cell_of_heap HB.out]; rfl
  have x6 : V.cell? ⟨w.heap.size, 6, none⟩ = some (.int .u16 v.brk) := by rw [Lib.cell_of_heap HB.out]; rfl
  go_region_held3 (fun w' => w'.heap[w.heap.size]? = some (.cells #[.string v.iss, .string v.comp, .string v.ue, .string v.sn, .string v.fl, .int .u8 v.ans, .int .u16 v.brk] 29 (0, 0)) ∧ w'.cell? ⟨w.heap.size, 0, none⟩ = some (.string v.iss) ∧ w'.cell? ⟨w.heap.size, 1, none⟩ = some (.string v.comp) ∧ w'.cell? ⟨w.heap.size, 2, none⟩ = some (.string v.ue) ∧ w'.cell? ⟨w.heap.size, 3, none⟩ = some (.string v.sn) ∧ w'.cell? ⟨w.heap.size, 4, none⟩ = some (.string v.fl) ∧ w'.cell? ⟨w.heap.size, 5, none⟩ = some (.int .u8 v.ans) ∧ w'.cell? ⟨w.heap.size, 6, none⟩ = some (.int .u16 v.brk))
    (first | (refine ⟨by exact HB.out, by exact x0, by exact x1, by exact x2, by exact x3, by exact x4, by exact x5, by exact x6⟩) | (exact boxed_all v (fr2.tag _ _ _ _ (by exact HB.out) (by decide))))
    (first | (go_at_call 19; refine (id_ex B eB mr mw subs runs rs rc Ws v _ (by exact HX.out) hn).mono ?_; rintro e w2 ⟨rfl, hx2, fr2⟩; have HX2 := hide hx2; clear hx2))
  go_wp2
  go_ret
  exact ⟨rfl, HX2.out, HF.out.drew.trans fr2⟩

end Go.Proofs.Qxb6613471a
