import Derived.Test.Qxb6613067aDoorBs
import Derived.Test.Qxb6613067aDoorBp
namespace Go.Proofs.Qxb6613067aDoor
open Go.RowKit

/-- A balance's decimal text. -/
def num (x : Int) : ByteArray := ⟨(Lib.itoa x).toArray⟩
theorem num_data (x : Int) : (num x).data.toList = Lib.itoa x := rfl
theorem num_size (x : Int) : (num x).size = (Lib.itoa x).length := by rw [Lib.size_eq, num_data]

theorem byte_at (t : ByteArray) (k : Nat) (h : k < t.size) : t.data.toList[k]? = some t[k] := by
  have hl : k < t.data.toList.length := by rw [← Lib.size_eq]; exact h
  rw [List.getElem?_eq_getElem hl]; rfl

theorem itoa_ne (x : Int) : 1 ≤ (Lib.itoa x).length := by
  rw [itoa_len]
  have h1 := Lib.nDigits_pos x.natAbs
  have h2 := Lib.nDigits_pos x.toNat
  split <;> omega

/-- The bytes behind the account's part. -/
theorem reply_at (br nm : ByteArray) (x : Int) (j : Nat) (h : br.size + nm.size + 1 + j < (reply br nm x).size) :
    some ((reply br nm x)[br.size + nm.size + 1 + j]'h) = ([32, 61, 32] ++ Lib.itoa x)[j]? := by
  rw [← byte_at _ _ h, reply_data, List.append_assoc, List.getElem?_append_right (by simp [acctL]; omega)]
  congr 1
  simp [acctL]; omega

theorem split_any (br nm : ByteArray) (x : Int) (w : World) (hs : br.size + nm.size ≤ 1048576) (hx0 : -9223372036854775808 ≤ x) (hx1 : x ≤ 9223372036854775807) :
    Calls Tryd.prog 10 #[.string (reply br nm x)] w fun e w' => e = .returned (.tuple #[.string (acct br nm), .string (num x), .bool true]) ∧ Below w.heap.size w w' := by
  have hz := reply_size br nm x
  have hl := Lib.itoa_length_le x hx0 hx1
  have hl1 := itoa_ne x
  have p0 : br.size + nm.size + 1 + 0 < (reply br nm x).size := by omega
  have p1 : br.size + nm.size + 1 + 1 < (reply br nm x).size := by omega
  have p2 : br.size + nm.size + 1 + 2 < (reply br nm x).size := by omega
  have r0 := reply_at br nm x 0 p0
  have r1 := reply_at br nm x 1 p1
  have r2 := reply_at br nm x 2 p2
  simp at r0 r1 r2
  have e1 : (reply br nm x).extract 0 (br.size + nm.size + 1) = acct br nm := by
    apply ByteArray.ext
    apply Array.toList_inj.1
    rw [Lib.extract_data, reply_data, List.drop_zero, Nat.sub_zero, List.append_assoc, List.take_left' (by simp [acctL]; omega)]
    simp [acct]
  have e2 : (reply br nm x).extract (br.size + nm.size + 1 + 3) (reply br nm x).size = num x := by
    apply ByteArray.ext
    apply Array.toList_inj.1
    rw [Lib.extract_data, reply_data, List.drop_left' (headL_length br nm), num_data]
    exact List.take_of_length_le (by omega)
  have key := split_core (reply br nm x) (br.size + nm.size + 1) w (by omega) (by omega) (by rw [r0]; rfl) (by rw [r1]; rfl) (by rw [r2]; rfl) ?_
  · rw [e1, e2] at key; exact key
  · intro k hk h
    obtain ⟨j, rfl⟩ : ∃ j, k = br.size + nm.size + 1 + (j + 1) := ⟨k - (br.size + nm.size + 1) - 1, by omega⟩
    have rj := reply_at br nm x (j + 1) (by omega)
    rcases j with _ | _ | j
    · left
      simp at rj
      rw [show (reply br nm x)[br.size + nm.size + 1 + (0 + 1)] = 61 from rj]; rfl
    · right
      have rk := reply_at br nm x (0 + 1 + 1 + 1) (by omega)
      have hch := itoa_chars x (Lib.itoa x)[0] (List.getElem_mem _)
      simp at rj rk
      rw [List.getElem?_eq_getElem (by omega)] at rk
      have rk' := Option.some.inj rk
      refine ⟨by rw [show (reply br nm x)[br.size + nm.size + 1 + (0 + 1 + 1)] = 32 from rj]; rfl, ?_⟩
      have e : (reply br nm x)[br.size + nm.size + 1 + (0 + 1 + 1) + 1] = (Lib.itoa x)[0] := rk'
      rw [e]
      exact beq_eq_false_iff_ne.2 (by omega)
    · left
      have hj : j < (Lib.itoa x).length := by omega
      have hch := itoa_chars x (Lib.itoa x)[j] (List.getElem_mem _)
      simp at rj
      rw [List.getElem?_eq_getElem hj] at rj
      have e : (reply br nm x)[br.size + nm.size + 1 + (j + 1 + 1 + 1)] = (Lib.itoa x)[j] := Option.some.inj rj
      rw [e]
      exact beq_eq_false_iff_ne.2 (by omega)

end Go.Proofs.Qxb6613067aDoor
