import Derived.Lib.ItoaNum
import Derived.Lib.ItoaMem
namespace Go.Proofs.Qxb6613067aDoor
open Go

/-- What a row of decimal digits is worth, behind a. -/
def valFrom (a : Nat) (l : List UInt8) : Nat := l.foldl (fun a c => a * 10 + (c.toNat - 48)) a
theorem valFrom_nil (a : Nat) : valFrom a [] = a := by unfold valFrom; rw [List.foldl_nil]
theorem valFrom_cons (a : Nat) (c : UInt8) (l : List UInt8) : valFrom a (c :: l) = valFrom (a * 10 + (c.toNat - 48)) l := by unfold valFrom; rw [List.foldl_cons]
theorem valFrom_append (a : Nat) (l r : List UInt8) : valFrom a (l ++ r) = valFrom (valFrom a l) r := by unfold valFrom; rw [List.foldl_append]

theorem ofNat_digit {d : Nat} (h : d < 10) : (UInt8.ofNat (48 + d)).toNat = 48 + d := by
  rw [UInt8.toNat_ofNat']; omega

theorem val_dec (u : Nat) : valFrom 0 (Lib.decDigits u) = u := by
  induction u using Nat.strongRecOn with
  | _ u ih =>
    by_cases h : u < 10
    · rw [Lib.decDigits_one h, valFrom_cons, valFrom_nil, ofNat_digit h]; omega
    · rw [Lib.decDigits, dif_neg h, valFrom_append, ih (u / 10) (by omega), valFrom_cons, valFrom_nil, ofNat_digit (Nat.mod_lt _ (by omega))]
      omega

theorem dec_all (u : Nat) : ∀ c ∈ Lib.decDigits u, 48 ≤ c.toNat ∧ c.toNat ≤ 57 := by
  induction u using Nat.strongRecOn with
  | _ u ih =>
    by_cases h : u < 10
    · rw [Lib.decDigits_one h]
      intro c hc
      rw [List.mem_singleton.1 hc, ofNat_digit h]; omega
    · rw [Lib.decDigits, dif_neg h]
      intro c hc
      rcases List.mem_append.1 hc with hc | hc
      · exact ih (u / 10) (by omega) c hc
      · rw [List.mem_singleton.1 hc, ofNat_digit (Nat.mod_lt _ (by omega))]
        have := Nat.mod_lt u (show 10 > 0 by omega)
        omega

theorem dec_inj {u v : Nat} (h : Lib.decDigits u = Lib.decDigits v) : u = v := by rw [← val_dec u, ← val_dec v, h]
theorem dec_ne (u : Nat) : Lib.decDigits u ≠ [] := by
  intro h
  have := Lib.decDigits_length u
  rw [h] at this
  have := Lib.nDigits_pos u
  simp at *
  omega
theorem dec_head (u : Nat) (l : List UInt8) : Lib.decDigits u ≠ 45 :: l := by
  intro h
  have := dec_all u 45 (by rw [h]; simp)
  simp at this

theorem itoa_pos {x : Int} (h : 0 ≤ x) : Lib.itoa x = Lib.decDigits x.toNat := by unfold Lib.itoa; rw [if_neg (by omega)]
theorem itoa_minus {x : Int} (h : x < 0) : Lib.itoa x = 45 :: Lib.decDigits x.natAbs := by unfold Lib.itoa; rw [if_pos h]

theorem itoa_inj {x y : Int} (h : Lib.itoa x = Lib.itoa y) : x = y := by
  by_cases hx : x < 0
  · by_cases hy : y < 0
    · rw [itoa_minus hx, itoa_minus hy] at h
      have := dec_inj (List.cons.inj h).2
      omega
    · rw [itoa_minus hx, itoa_pos (by omega)] at h
      exact absurd h.symm (dec_head _ _)
  · by_cases hy : y < 0
    · rw [itoa_pos (by omega), itoa_minus hy] at h
      exact absurd h (dec_head _ _)
    · rw [itoa_pos (by omega), itoa_pos (by omega)] at h
      have := dec_inj h
      omega

/-- The length of x's decimal text. -/
theorem itoa_len (x : Int) : (Lib.itoa x).length = if x < 0 then 1 + Lib.nDigits x.natAbs else Lib.nDigits x.toNat := by
  unfold Lib.itoa
  split
  · simp [Lib.decDigits_length]; omega
  · rw [Lib.decDigits_length]

/-- The digit of a byte at place k of a numeral. -/
theorem itoa_chars (x : Int) : ∀ c ∈ Lib.itoa x, c.toNat = 45 ∨ (48 ≤ c.toNat ∧ c.toNat ≤ 57) := by
  intro c hc
  unfold Lib.itoa at hc
  split at hc
  · rcases List.mem_cons.1 hc with rfl | hc
    · left; rfl
    · right; exact dec_all _ c hc
  · right; exact dec_all _ c hc

end Go.Proofs.Qxb6613067aDoor
