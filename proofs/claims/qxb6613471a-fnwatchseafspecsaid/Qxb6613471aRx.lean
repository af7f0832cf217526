import Derived.Test.Qxb6613471aRi
namespace Go.Proofs.Qxb6613471a
open Go.RowKit

theorem zrid_any (B eB mr mw : Nat) (subs : List (Nat × Nat)) (Ws : List Wt) (n : Nat) (w : World) (h : Ex B eB mr mw subs [] #[] 0 Ws w) :
    Calls Try.prog 8 #[.pointer (some ⟨eB, 0, none⟩), .int .u32 (n : Int)] w fun e w' =>
      e = .returned (.int .u32 0) ∧ (∃ rs rc, Ex B eB mr mw subs [n] rs rc Ws w') ∧ Fr B [94, 102] [mr] w w' := by
  have hB := h.lt
  obtain ⟨cs, sv, rv, wv, a1, a2, a3, a4, a5, a6, a7, a8, a9, a10, a11, a12, a13, a14, a15⟩ := h
  have HA := hide (And.intro a1 (And.intro a2 (And.intro a3 (And.intro a4 (And.intro a5 a6)))))
  have HC := hide (And.intro a7 (And.intro a8 (And.intro a9 (And.intro a10 (And.intro a11 (And.intro a12 (And.intro a13 (And.intro a14 a15))))))))
  clear a1 a2 a3 a4 a5 a6 a7 a8 a9 a10 a11 a12 a13 a14 a15
  go_enter Try.func8, Try.ntmps8
  go_wp2_with fail
  refine (rid_any B eB mr cs rv n w HA.out.1 HA.out.2.2.1 HA.out.2.2.2.1 HC.out.2.1 HC.out.2.2.2.1 hB.2.2.2).mono ?_
  rintro e w' ⟨rfl, rv', b1, b2, b3, row, k, hrow⟩
  have fin : (∃ rs rc, Ex B eB mr mw subs [n] rs rc Ws w') ∧ Fr B [94, 102] [mr] w w' := by
    obtain ⟨a1, a2, a3, a4, a5, a6⟩ := HA.out
    obtain ⟨a7, a8, a9, a10, a11, a12, a13, a14, a15⟩ := HC.out
    have f : Fr B [94, 102] [mr] w w' := by
      refine Fr.of_kept k hB.2.2.2 (fun j hj => ?_)
      simp only [List.mem_cons] at hj
      rcases hj with rfl | rfl | hj
      · refine ⟨a13, fun cs' t fz hc => ?_, fun es c hc => ?_⟩
        · rw [a1] at hc; cases hc; simp
        · rw [a1] at hc; cases hc
      · refine ⟨a14, fun cs' t fz hc => ?_, fun es c hc => by simp⟩
        rw [a10] at hc; cases hc
      · obtain ⟨h1, cur, h2⟩ := hrow j hj
        refine ⟨h1, fun cs' t fz hc => ?_, fun es c hc => ?_⟩
        · rw [h2] at hc; cases hc; simp
        · rw [h2] at hc; cases hc
    refine ⟨⟨_, _, ⟨cs.setIfInBounds 20 rv', sv, rv', wv, b1, ?_, ?_, ?_, ?_, ?_, f.row a7 (by decide), ?_, f.row a9 (by decide), b3, f.maps _ _ _ a11 (by simpa using Ne.symm a12), a12, a13, a14, a15⟩⟩, f⟩
    · rw [Array.getElem?_setIfInBounds_ne (by decide)]; exact a2
    · have : 20 < cs.size := (Array.getElem?_eq_some_iff.1 a3).1
      rw [Array.getElem?_setIfInBounds_self_of_lt this]
    · rw [Array.getElem?_setIfInBounds_ne (by decide)]; exact a4
    · rw [Array.getElem?_setIfInBounds_ne (by decide)]; exact a5
    · rw [Array.getElem?_setIfInBounds_ne (by decide)]; exact a6
    · simpa [flatR] using b2
  have FIN := hide fin
  clear fin b1 b2 b3 hrow k
  go_wp2
  go_ret
  exact ⟨rfl, FIN.out⟩

end Go.Proofs.Qxb6613471a
