import Derived.Test.Qxb6613471aLw
namespace Go.Proofs.Qxb6613471a
open Go.RowKit

/-- What the law's own loop has found behind n subscribers. -/
def soB (subs : List (Nat × Nat)) (i : Nat) (rW oW : Wt) (k supi snn n : Nat) : Bool :=
  (decide ((subs.getD i (0, 0)).1 = supi) && holdsT rW.comp [k, snn]) || (List.range n).any fun j => (decide (j ≠ i) && decide ((subs.getD j (0, 0)).1 = supi)) && holdsT oW.comp [k, snn]
theorem soB_succ (subs : List (Nat × Nat)) (i : Nat) (rW oW : Wt) (k supi snn n : Nat) : soB subs i rW oW k supi snn (n + 1) = (soB subs i rW oW k supi snn n || ((decide (n ≠ i) && decide ((subs.getD n (0, 0)).1 = supi)) && holdsT oW.comp [k, snn])) := by
  simp [soB, List.range_succ, Bool.or_assoc]
theorem soB_agB (subs : List (Nat × Nat)) (i : Nat) (rW oW : Wt) (k supi snn n : Nat) (hi : i < n) : agB subs i rW oW k supi snn n = soB subs i rW oW k supi snn n := by
  rw [Bool.eq_iff_iff]
  simp only [agB, soB, Bool.or_eq_true, List.any_eq_true, List.mem_range, Bool.and_eq_true, decide_eq_true_eq]
  constructor
  · rintro ⟨j, hj, h1, h2⟩
    by_cases e : j = i
    · subst e
      rw [wAt, if_pos rfl] at h2
      exact Or.inl ⟨h1, h2⟩
    · rw [wAt, if_neg e] at h2
      exact Or.inr ⟨j, hj, ⟨e, h1⟩, h2⟩
  · rintro (⟨h1, h2⟩ | ⟨j, hj, ⟨e, h1⟩, h2⟩)
    · exact ⟨i, hi, h1, by rw [wAt, if_pos rfl]; exact h2⟩
    · exact ⟨j, hj, h1, by rw [wAt, if_neg e]; exact h2⟩
theorem spB_spent (i : Nat) (rW oW : Wt) (k n : Nat) (hi : i < n) : spB i rW oW k n = (holdsT rW.sn [k] || (decide (1 < n) && holdsT oW.sn [k])) := by
  rw [Bool.eq_iff_iff]
  simp only [spB, Bool.or_eq_true, List.any_eq_true, List.mem_range, Bool.and_eq_true, decide_eq_true_eq]
  constructor
  · rintro ⟨j, hj, h⟩
    by_cases e : j = i
    · rw [wAt, if_pos e] at h; exact Or.inl h
    · rw [wAt, if_neg e] at h; exact Or.inr ⟨by omega, h⟩
  · rintro (h | ⟨h1, h⟩)
    · exact ⟨i, hi, by rw [wAt, if_pos rfl]; exact h⟩
    · by_cases e : i = 0
      · exact ⟨1, by omega, by rw [wAt, if_neg (by omega)]; exact h⟩
      · exact ⟨0, by omega, by rw [wAt, if_neg (by omega)]; exact h⟩

theorem outW_ne (rW : Wt) (k : Nat) (b : Bool) : outW rW k b ≠ rW := fun e => by
  have h1 : (outW rW k b).sn.size = rW.sn.size := by rw [e]
  have hps : (packS [k]).size = 4 := by rw [Lib.size_eq]; exact packL_length [k]
  have h2 : (outW rW k b).sn.size = rW.sn.size + 4 := by
    simp only [outW, ByteArray.size_append, hps]
  omega

theorem addW_one (oW : Wt) : addW [] oW = ([oW], 0) := rfl
/-- Is v not among them, it is put behind. -/
theorem addW_new (Ws : List Wt) (v : Wt) (h : v ∉ Ws) : addW Ws v = (Ws ++ [v], Ws.length) := by
  unfold addW; rw [idx_none v Ws 0 h]
theorem addW_head (oW : Wt) (r : List Wt) : addW (oW :: r) oW = (oW :: r, 0) := by
  unfold addW
  rw [show idxFrom oW 0 (oW :: r) = some 0 from by unfold idxFrom; rw [if_pos ((Wt.eq_iff oW oW).2 rfl)]]
/-- The two first watches. -/
theorem addW_two (oW rW : Wt) : (rW = oW ∧ addW [oW] rW = ([oW], 0)) ∨ (rW ≠ oW ∧ addW [oW] rW = ([oW, rW], 1)) := by
  by_cases e : rW = oW
  · left; subst e; exact ⟨rfl, addW_head rW []⟩
  · right; exact ⟨e, addW_new [oW] rW (by simpa using e)⟩
/-- Where the step's watch lies. -/
theorem addW_out (oW rW v : Wt) (hv : v ≠ rW) : (v = oW → addW (addW [oW] rW).1 v = ((addW [oW] rW).1, 0)) ∧ (v ≠ oW → addW (addW [oW] rW).1 v = ((addW [oW] rW).1 ++ [v], (addW [oW] rW).1.length)) := by
  rcases addW_two oW rW with ⟨e, h⟩ | ⟨e, h⟩
  · rw [h]
    refine ⟨fun e2 => by rw [e2]; exact addW_head oW [], fun e2 => addW_new _ _ (by simpa using e2)⟩
  · rw [h]
    refine ⟨fun e2 => by rw [e2]; exact addW_head oW [rW], fun e2 => addW_new _ _ (by simp [e2, hv])⟩

end Go.Proofs.Qxb6613471a
