import Derived.Test.Qxb6613471aSv
namespace Go.Proofs.Qxb6613471a
open Go.RowKit

theorem idx_shift (v : Wt) : ∀ (Ws : List Wt) (n i : Nat), idxFrom v n Ws = some i → n ≤ i ∧ Ws[i - n]? = some v
  | [], n, i, h => by simp [idxFrom] at h
  | a :: r, n, i, h => by
    unfold idxFrom at h
    by_cases e : v.eq a = true
    · rw [if_pos e] at h
      cases h
      rw [(Wt.eq_iff v a).1 e]
      simp
    · rw [if_neg e] at h
      obtain ⟨h1, h2⟩ := idx_shift v r (n + 1) i h
      refine ⟨by omega, ?_⟩
      rw [show i - n = (i - (n + 1)) + 1 from by omega]
      simpa using h2
theorem idx_none (v : Wt) : ∀ (Ws : List Wt) (n : Nat), v ∉ Ws → idxFrom v n Ws = none
  | [], n, h => rfl
  | a :: r, n, h => by
    unfold idxFrom
    rw [if_neg (fun e => h (by rw [(Wt.eq_iff v a).1 e]; simp))]
    exact idx_none v r (n + 1) (fun e => h (List.mem_cons_of_mem _ e))
theorem addW_get (Ws : List Wt) (v : Wt) : (addW Ws v).1[(addW Ws v).2]? = some v := by
  unfold addW
  cases h : idxFrom v 0 Ws with
  | none => simp
  | some i => exact (idx_shift v Ws 0 i h).2
theorem addW_old (Ws : List Wt) (v : Wt) {j : Nat} {u : Wt} (h : Ws[j]? = some u) : (addW Ws v).1[j]? = some u := by
  unfold addW
  cases idxFrom v 0 Ws with
  | none => rw [List.getElem?_append_left (List.getElem?_eq_some_iff.1 h).1]; exact h
  | some i => exact h
theorem addW_len (Ws : List Wt) (v : Wt) : Ws.length ≤ (addW Ws v).1.length ∧ (addW Ws v).1.length ≤ Ws.length + 1 := by
  unfold addW
  cases idxFrom v 0 Ws with
  | none => simp
  | some i => simp
theorem addW_lt (Ws : List Wt) (v : Wt) : (addW Ws v).2 < (addW Ws v).1.length := (List.getElem?_eq_some_iff.1 (addW_get Ws v)).1

/-- The key k put behind whole terms is held. -/
theorem holds_last (s : ByteArray) (k : Nat) (h4 : s.size % 4 = 0) : holdsT (s ++ packS [k]) [k] = true := by
  unfold holdsT
  have hl : (packL [k]).length = 4 := packL_length [k]
  rw [holdsL_iff _ _ (by omega)]
  have hd : (s ++ packS [k]).data.toList = s.data.toList ++ packL [k] := by simp [packS]
  have hs : s.data.toList.length = s.size := (Lib.size_eq s).symm
  refine ⟨s.size / 4, ?_, ?_⟩
  · rw [hd, hl, List.length_append, hl, hs]; omega
  · unfold hitAt
    rw [hd, hl, show s.size / 4 * 4 = s.data.toList.length from by rw [hs]; omega, List.drop_left, ← hl, List.take_length]
    simp

end Go.Proofs.Qxb6613471a
