import Derived.Test.Qxb6613067aDoorRows
import Derived.Test.Qxb6613067aDoorShelfF
import Derived.Test.Qxb6613067aDoorNum
import Derived.WalkKit
import Derived.WalkSpells
import Derived.WalkLawsBesides
import Derived.Lib.AppendIntMem
import Derived.Lib.ItoaLen
import Derived.BigQuiet
import Derived.Deep.QuietTactic
namespace Go.Proofs.Qxb6613067aDoor
open Go.RowKit

/-- The table's name, as the rows list it. -/
abbrev tabName : String := Rows.fnBalanceReplyReadsBackAtLastEqualsRow.named.headD ""
/-- The table of powers of ten reads as its initialiser lays it, in w and wherever nothing below B has turned. -/
def Tab (B : Nat) (w : World) : Prop := Lib.TabBelow Tryd.prog B w tabName .u64 Lib.pow10Tab
theorem bhide {p : Prop} (h : p) : Hid p := h

/-- The bytes of a balance's reply. -/
def replyL (br nm : ByteArray) (x : Int) : List UInt8 := br.data.toList ++ [46] ++ nm.data.toList ++ [32, 61, 32] ++ Lib.itoa x
def reply (br nm : ByteArray) (x : Int) : ByteArray := ⟨(replyL br nm x).toArray⟩
def acctL (br nm : ByteArray) : List UInt8 := br.data.toList ++ [46] ++ nm.data.toList
def acct (br nm : ByteArray) : ByteArray := ⟨(acctL br nm).toArray⟩

theorem acct_eq (br nm : ByteArray) : br ++ (⟨#[46]⟩ : ByteArray) ++ nm = acct br nm := by
  apply ByteArray.ext
  apply Array.toList_inj.1
  simp [acct, acctL]
theorem reply_eq (br nm : ByteArray) (x : Int) : acct br nm ++ (⟨#[32, 61, 32]⟩ : ByteArray) ++ ⟨(Lib.itoa x).toArray⟩ = reply br nm x := by
  apply ByteArray.ext
  apply Array.toList_inj.1
  simp [acct, acctL, reply, replyL]

theorem acct_size (br nm : ByteArray) : (acct br nm).size = br.size + nm.size + 1 := by
  rw [Lib.size_eq]; simp [acct, acctL]; omega

set_option maxHeartbeats 400000 in
theorem acct_any (br nm : ByteArray) (w : World) (_hs : br.size + nm.size ≤ 1048576) : Calls Tryd.prog 11 #[.agg #[.string br, .string nm]] w fun e w' => e = .returned (.string (acct br nm)) ∧ Below w.heap.size w w' := by
  go_enter Tryd.func11, Tryd.ntmps11
  go_wp2
  go_ret
  exact ⟨by rw [acct_eq]; rfl, (Below.refl _ _).alloc (Nat.le_refl _) _⟩

theorem grow_below (w : World) (k : Nat) (os : Array Obj) : Below w.heap.size w (Sort.grow (w.drewN k) os) :=
  ⟨rfl, rfl, rfl, by simp [World.drewN], fun j hj => Sort.heap_grow_old (w.drewN k) os hj⟩

set_option maxHeartbeats 400000 in
theorem bal_any (br nm : ByteArray) (x : Int) (w : World) (hx0 : -9223372036854775808 ≤ x) (hx1 : x ≤ 9223372036854775807) (hs : br.size + nm.size ≤ 1048576) (hT : Tab w.heap.size w) :
    Calls Tryd.prog 9 #[.agg #[.string br, .string nm], .int .i64 x] w fun e w' => e = .returned (.string (reply br nm x)) ∧ Below w.heap.size w w' := by
  have HT := bhide hT
  clear hT
  have h1 : (acct br nm).size ≤ 1048577 := by rw [acct_size]; omega
  have h2 := Lib.itoa_length_le x hx0 hx1
  go_enter Tryd.func9, Tryd.ntmps9
  go_wp2_with (first | (go_at_call 11; refine (acct_any br nm _ hs).mono ?_; rintro e w1 ⟨rfl, b1⟩))
  have b2 : Below w.heap.size w w1 := ((Below.refl _ _).alloc (Nat.le_refl _) _).trans (b1.mono (by simp))
  have s2 := b2.size
  have HF : Calls Tryd.prog 28 #[.int .i64 x, .int .i64 10] w1 fun e w' => e = .returned (.string ⟨(Lib.itoa x).toArray⟩) ∧ Below w.heap.size w w' := by
    refine (Any.strconv_FormatInt_10 Tryd.laysM173 x hx0 hx1 w1 (HT.out w1 b2)).mono ?_
    rintro e w' ⟨rfl, k, os, rfl⟩
    exact ⟨rfl, b2.trans ((grow_below w1 k os).mono s2)⟩
  have HB := bhide b2
  clear b1 b2 HT
  refine HF.mono ?_
  rintro e w2 ⟨rfl, b3⟩
  clear HF
  go_wp2
  go_ret
  exact ⟨by rw [reply_eq]; rfl, b3⟩

theorem bret {k : IntKind} {a b : Int} (h : a = b) : Ending.returned (.int k a) = .returned (.int k b) := by rw [h]

set_option maxHeartbeats 400000 in
theorem dlen_any (x : Int) (w : World) (hx0 : -9223372036854775808 ≤ x) (hx1 : x ≤ 9223372036854775807) :
    Calls Tryd.prog 14 #[.int .i64 x] w fun e w' => e = .returned (.int .i64 (Lib.itoa x).length) ∧ w' = w := by
  have h21 := Lib.itoa_length_le x hx0 hx1
  by_cases hn : x < 0
  · obtain ⟨u, hu⟩ : ∃ u : Nat, x = -(u : Int) - 1 := ⟨(-(x + 1)).toNat, by omega⟩
    subst hu
    have hlen : ((Lib.itoa (-(u : Int) - 1)).length : Int) = 1 + Lib.nDigits (u + 1) := by
      rw [itoa_len, if_pos hn, show (-(u : Int) - 1).natAbs = u + 1 from by omega]; omega
    have HL := bhide hlen
    have HD : Hid (Lib.nDigits (u + 1) ≤ 20) := bhide (by omega)
    clear hlen h21
    go_enter Tryd.func14, Tryd.ntmps14
    go_wp2
    go_loop [3, 4] (fun n t => ∃ k v : Nat, n = .int .i64 k ∧ t = .int .u64 v ∧ Hid (k + Lib.nDigits v = 2 + Lib.nDigits (u + 1)) ∧ k ≤ 30 ∧ v ≤ 9223372036854775808) (fun _ t => (intOf t).toNat)
    case atStart => exact ⟨2, u + 1, rfl, by go_num, bhide rfl, by omega, by omega⟩
    case round =>
      obtain ⟨k, v, rfl, rfl, HK, hk, hv⟩ := hrel
      by_cases h10 : v < 10
      · go_wp2
        go_ret
        exact ⟨bret (by have := HK.out; rw [Lib.nDigits_small h10] at this; rw [HL.out]; omega), rfl⟩
      · have hb := Lib.nDigits_big h10
        have hp := Lib.nDigits_pos (v / 10)
        have HN : Hid (k + 1 + Lib.nDigits (v / 10) = 2 + Lib.nDigits (u + 1)) := bhide (by have := HK.out; rw [hb] at this; omega)
        have hk2 : k + 1 ≤ 30 := by have := HN.out; have := HD.out; omega
        clear hb hp HK
        go_wp2
        go_round
        case rel => exact ⟨k + 1, v / 10, by go_num, by go_num, HN, hk2, by omega⟩
        case measure => simp [intOf]; omega
  · obtain ⟨u, hu⟩ : ∃ u : Nat, x = (u : Int) := ⟨x.toNat, by omega⟩
    subst hu
    have hlen : ((Lib.itoa (u : Int)).length : Int) = Lib.nDigits u := by
      rw [itoa_len, if_neg hn, Int.toNat_natCast]
    have HL := bhide hlen
    have HD : Hid (Lib.nDigits u ≤ 21) := bhide (by omega)
    clear hlen h21
    go_enter Tryd.func14, Tryd.ntmps14
    go_wp2
    go_loop [3, 4] (fun n t => ∃ k v : Nat, n = .int .i64 k ∧ t = .int .u64 v ∧ Hid (k + Lib.nDigits v = 1 + Lib.nDigits (u)) ∧ k ≤ 30 ∧ v ≤ 9223372036854775808) (fun _ t => (intOf t).toNat)
    case atStart => exact ⟨1, u, rfl, by go_num, bhide rfl, by omega, by omega⟩
    case round =>
      obtain ⟨k, v, rfl, rfl, HK, hk, hv⟩ := hrel
      by_cases h10 : v < 10
      · go_wp2
        go_ret
        exact ⟨bret (by have := HK.out; rw [Lib.nDigits_small h10] at this; rw [HL.out]; omega), rfl⟩
      · have hb := Lib.nDigits_big h10
        have hp := Lib.nDigits_pos (v / 10)
        have HN : Hid (k + 1 + Lib.nDigits (v / 10) = 1 + Lib.nDigits (u)) := bhide (by have := HK.out; rw [hb] at this; omega)
        have hk2 : k + 1 ≤ 30 := by have := HN.out; have := HD.out; omega
        clear hb hp HK
        go_wp2
        go_round
        case rel => exact ⟨k + 1, v / 10, by go_num, by go_num, HN, hk2, by omega⟩
        case measure => simp [intOf]; omega

end Go.Proofs.Qxb6613067aDoor
