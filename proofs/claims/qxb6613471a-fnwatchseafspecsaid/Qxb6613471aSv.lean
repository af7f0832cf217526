import Derived.Test.Qxb6613471aAt
import Derived.Test.Qxb6613471aNx
namespace Go.Proofs.Qxb6613471a
open Go.RowKit

/-- The explorer, with the slices of its subscribers and of its runs named. -/
def ExV (B eB mr mw : Nat) (sv rv : Value) (subs : List (Nat × Nat)) (runs : List Nat) (rs : Array MapEntry) (rc : Nat) (Ws : List Wt) (w : World) : Prop :=
  ∃ (cs : Array Value) (wv : Value), w.heap[eB]? = some (.cells cs 94 (0, 0)) ∧ cs[14]? = some sv ∧ cs[20]? = some rv ∧ cs[21]? = some (.map (some mr)) ∧ cs[22]? = some wv ∧ cs[23]? = some (.map (some mw)) ∧
    w.ownsRow B 107 8 sv subs.length (flatS subs) ∧ w.ownsRow B 102 16 rv runs.length (flatR runs) ∧ w.ownsRow B 97 7 wv Ws.length (flatW Ws) ∧
    w.heap[mr]? = some (.map rs rc) ∧ w.heap[mw]? = some (.map (entsFrom 0 Ws).toArray Ws.length) ∧ mr ≠ mw ∧ B ≤ eB ∧ B ≤ mr ∧ B ≤ mw

theorem Ex.v {B eB mr mw : Nat} {subs : List (Nat × Nat)} {runs : List Nat} {rs : Array MapEntry} {rc : Nat} {Ws : List Wt} {w : World} (h : Ex B eB mr mw subs runs rs rc Ws w) : ∃ sv rv, ExV B eB mr mw sv rv subs runs rs rc Ws w := by
  obtain ⟨cs, sv, rv, wv, h⟩ := h
  exact ⟨sv, rv, cs, wv, h⟩
theorem ExV.ex {B eB mr mw : Nat} {sv rv : Value} {subs : List (Nat × Nat)} {runs : List Nat} {rs : Array MapEntry} {rc : Nat} {Ws : List Wt} {w : World} (h : ExV B eB mr mw sv rv subs runs rs rc Ws w) : Ex B eB mr mw subs runs rs rc Ws w := by
  obtain ⟨cs, wv, h⟩ := h
  exact ⟨cs, sv, rv, wv, h⟩
theorem ExV.fr {B eB mr mw : Nat} {sv rv : Value} {subs : List (Nat × Nat)} {runs : List Nat} {rs : Array MapEntry} {rc : Nat} {Ws : List Wt} {w w' : World} (h : ExV B eB mr mw sv rv subs runs rs rc Ws w) {b : Nat} {T M : List Nat} (f : Fr b T M w w')
    (h1 : 94 ∉ T) (h2 : 107 ∉ T) (h3 : 102 ∉ T) (h4 : 97 ∉ T) (h5 : mr ∉ M) (h6 : mw ∉ M) : ExV B eB mr mw sv rv subs runs rs rc Ws w' := by
  obtain ⟨cs, wv, a1, a2, a3, a4, a5, a6, a7, a8, a9, a10, a11, a12⟩ := h
  exact ⟨cs, wv, f.tag _ _ _ _ a1 h1, a2, a3, a4, a5, a6, f.row a7 h2, f.row a8 h3, f.row a9 h4, f.maps _ _ _ a10 h5, f.maps _ _ _ a11 h6, a12⟩
theorem ExV.kept {B eB mr mw : Nat} {sv rv : Value} {subs : List (Nat × Nat)} {runs : List Nat} {rs : Array MapEntry} {rc : Nat} {Ws : List Wt} {w w' : World} (h : ExV B eB mr mw sv rv subs runs rs rc Ws w) (k : Kept [] w w') : ExV B eB mr mw sv rv subs runs rs rc Ws w' :=
  h.fr (Fr.nil (B := 0) (T := []) (M := []) k (Nat.zero_le _)) (by simp) (by simp) (by simp) (by simp) (by simp) (by simp)

theorem id_exV (B eB mr mw : Nat) (sv rv : Value) (subs : List (Nat × Nat)) (runs : List Nat) (rs : Array MapEntry) (rc : Nat) (Ws : List Wt) (v : Wt) (w : World) (h : ExV B eB mr mw sv rv subs runs rs rc Ws w) (hn : Ws.length ≤ 1000) :
    Calls Try.prog 19 #[.pointer (some ⟨eB, 22, none⟩), .agg #[.string v.iss, .string v.comp, .string v.ue, .string v.sn, .string v.fl, .int .u8 v.ans, .int .u16 v.brk]] w fun e w' =>
      e = .returned (.int .u32 (addW Ws v).2) ∧ ExV B eB mr mw sv rv subs runs rs rc (addW Ws v).1 w' ∧ Fr B [94, 97] [mw] w w' := by
  have hB := h.ex.lt
  have hx := h
  obtain ⟨cs, wv, a1, a2, a3, a4, a5, a6, a7, a8, a9, a10, a11, a12, a13, a14, a15⟩ := h
  cases hi : idxFrom v 0 Ws with
  | some i =>
    have e1 : addW Ws v = (Ws, i) := by simp [addW, hi]
    rw [e1]
    refine (id_hit eB mw Ws v i w (cell_get a1 a6) a11 hB.2.1 hi).mono ?_
    rintro e w' ⟨rfl, k⟩
    exact ⟨rfl, hx.kept k, Fr.nil k hB.2.2.2⟩
  | none =>
    have e1 : addW Ws v = (Ws ++ [v], Ws.length) := by simp [addW, hi]
    rw [e1]
    refine (id_miss B eB mw cs wv Ws v w a1 a5 a6 a9 a11 hB.2.2.2 hn hi).mono ?_
    rintro e w' ⟨rfl, wv', b1, b2, b3, row, k, hrow⟩
    have f : Fr B [94, 97] [mw] w w' := by
      refine Fr.of_kept k hB.2.2.2 (fun j hj => ?_)
      simp only [List.mem_cons] at hj
      rcases hj with rfl | rfl | hj
      · refine ⟨a13, fun cs' t fz hc => ?_, fun es c hc => ?_⟩
        · rw [a1] at hc; cases hc; simp
        · rw [a1] at hc; cases hc
      · refine ⟨a15, fun cs' t fz hc => ?_, fun es c hc => by simp⟩
        rw [a11] at hc; cases hc
      · obtain ⟨h1, cur, h2⟩ := hrow j hj
        refine ⟨h1, fun cs' t fz hc => ?_, fun es c hc => ?_⟩
        · rw [h2] at hc; cases hc; simp
        · rw [h2] at hc; cases hc
    refine ⟨rfl, ⟨cs.setIfInBounds 22 wv', wv', b1, ?_, ?_, ?_, ?_, ?_, f.row a7 (by decide), f.row a8 (by decide), b2, f.maps _ _ _ a10 (by simpa using a12), b3, a12, a13, a14, a15⟩, f⟩
    · rw [Array.getElem?_setIfInBounds_ne (by decide)]; exact a2
    · rw [Array.getElem?_setIfInBounds_ne (by decide)]; exact a3
    · rw [Array.getElem?_setIfInBounds_ne (by decide)]; exact a4
    · have : 22 < cs.size := (Array.getElem?_eq_some_iff.1 a5).1
      rw [Array.getElem?_setIfInBounds_self_of_lt this]
    · rw [Array.getElem?_setIfInBounds_ne (by decide)]; exact a6

/-- A store into the run r. -/
theorem ExV.set {B eB mr mw : Nat} {sv rv : Value} {subs : List (Nat × Nat)} {runs : List Nat} {rs : Array MapEntry} {rc : Nat} {Ws : List Wt} {w : World} (h : ExV B eB mr mw sv rv subs runs rs rc Ws w) {rb : Nat} {rcs : Array Value} (hr : w.heap[rb]? = some (.cells rcs 102 (0, 0))) (hap : rv.ownBlock ≠ some rb) (o : Nat) (u : Value) :
    ExV B eB mr mw sv rv subs runs rs rc Ws (w.setCell ⟨rb, o, none⟩ u) := by
  obtain ⟨cs, wv, a1, a2, a3, a4, a5, a6, a7, a8, a9, a10, a11, a12⟩ := h
  have n1 : eB ≠ rb := fun e => by rw [e, hr] at a1; cases a1
  have n2 : mr ≠ rb := fun e => by rw [e, hr] at a10; cases a10
  have n3 : mw ≠ rb := fun e => by rw [e, hr] at a11; cases a11
  exact ⟨cs, wv, heap_sc _ n1 a1, a2, a3, a4, a5, a6, own_setCell a7 (own_ne a7 hr (by decide)) _ _, own_setCell a8 hap _ _, own_setCell a9 (own_ne a9 hr (by decide)) _ _, heap_sc _ n2 a10, heap_sc _ n3 a11, a12⟩

theorem kept_of_below {w w' : World} (h : Below w.heap.size w w') : Kept [] w w' := ⟨h.os, h.tape, h.output, h.size, fun k hk _ => h.block k hk⟩

/-- Whose watch is asked at place j. -/
def wAt (i : Nat) (rW oW : Wt) (j : Nat) : Wt := if j = i then rW else oW
/-- Has one of the first n subscribers of that SUPI computed the pair? -/
def agB (subs : List (Nat × Nat)) (i : Nat) (rW oW : Wt) (k supi snn n : Nat) : Bool := (List.range n).any fun j => decide ((subs.getD j (0, 0)).1 = supi) && holdsT (wAt i rW oW j).comp [k, snn]
/-- Do the SEAF keys of one of the first n hold k? -/
def spB (i : Nat) (rW oW : Wt) (k n : Nat) : Bool := (List.range n).any fun j => holdsT (wAt i rW oW j).sn [k]
theorem agB_succ (subs : List (Nat × Nat)) (i : Nat) (rW oW : Wt) (k supi snn n : Nat) : agB subs i rW oW k supi snn (n + 1) = (agB subs i rW oW k supi snn n || (decide ((subs.getD n (0, 0)).1 = supi) && holdsT (wAt i rW oW n).comp [k, snn])) := by
  simp [agB, List.range_succ]
theorem spB_succ (i : Nat) (rW oW : Wt) (k n : Nat) : spB i rW oW k (n + 1) = (spB i rW oW k n || holdsT (wAt i rW oW n).sn [k]) := by
  simp [spB, List.range_succ]
theorem spB_le (i : Nat) (rW oW : Wt) (k n N : Nat) (h : spB i rW oW k n = true) (hn : n ≤ N) : spB i rW oW k N = true := by
  simp only [spB, List.any_eq_true, List.mem_range] at *
  obtain ⟨j, hj, h⟩ := h
  exact ⟨j, by omega, h⟩
/-- The watch that the step leaves. -/
def outW (rW : Wt) (k : Nat) (ok : Bool) : Wt := { rW with sn := rW.sn ++ packS [k], brk := if ok then rW.brk else bits .or .u16 rW.brk 256 }

end Go.Proofs.Qxb6613471a
