import Derived.Test.Qxb6613471aBw
namespace Go.Proofs.Qxb6613471a
open Go.RowKit

def wordAt (s : ByteArray) (p : Nat) : Nat := (s.data.toList.getD p 0).toNat + 256 * (s.data.toList.getD (p + 1) 0).toNat + 65536 * (s.data.toList.getD (p + 2) 0).toNat + 16777216 * (s.data.toList.getD (p + 3) 0).toNat

theorem getD_at (s : ByteArray) (p : Nat) (h : p < s.size) : s.data.toList.getD p 0 = s[p] := by
  have h2 : p < s.data.toList.length := by rw [← Lib.size_eq]; exact h
  rw [List.getD_eq_getElem?_getD, List.getElem?_eq_getElem h2]
  simp
  rfl

theorem word_at (s : ByteArray) (p : Nat) (w : World) (hp : p + 4 ≤ s.size) (hs : s.size ≤ 1048576) :
    Calls Try.prog 22 #[.string s, .int .i64 (p : Int)] w fun e w' => e = .returned (.int .u32 (wordAt s p : Int)) ∧ ∃ n, w' = w.drewN n := by
  have := word_any s p w hp hs
  unfold wordAt
  rw [getD_at s p (by omega), getD_at s (p + 1) (by omega), getD_at s (p + 2) (by omega), getD_at s (p + 3) (by omega)]
  exact this

theorem take4 (l : List UInt8) (p : Nat) (h : p + 4 ≤ l.length) : (l.drop p).take 4 = [l.getD p 0, l.getD (p + 1) 0, l.getD (p + 2) 0, l.getD (p + 3) 0] := by
  apply List.ext_getElem?
  intro j
  rw [List.getElem?_take]
  by_cases hj : j < 4
  · rw [if_pos hj, List.getElem?_drop]
    match j, hj with
    | 0, _ => simp [List.getD_eq_getElem?_getD, show p < l.length from by omega]
    | 1, _ => simp [List.getD_eq_getElem?_getD, show p + 1 < l.length from by omega]
    | 2, _ => simp [List.getD_eq_getElem?_getD, show p + 2 < l.length from by omega]
    | 3, _ => simp [List.getD_eq_getElem?_getD, show p + 3 < l.length from by omega]
  · rw [if_neg hj, List.getElem?_eq_none (by simp; omega)]

theorem u8_eq (b : UInt8) (n : Nat) : b = (n % 256).toUInt8 ↔ b.toNat = n % 256 := by
  rw [← UInt8.toNat_inj]
  have : ((n % 256).toUInt8).toNat = n % 256 := by simp [Nat.toUInt8_eq]
  rw [this]

theorem word_eq (s : ByteArray) (p k : Nat) (hp : p + 4 ≤ s.size) (hk : k < 4294967296) : ((s.data.toList.drop p).take 4 = packL [k]) ↔ wordAt s p = k := by
  rw [take4 _ _ (by rw [← Lib.size_eq]; exact hp), packL_one]
  unfold wordAt
  simp only [List.cons.injEq, and_true, u8_eq]
  have h0 := (s.data.toList.getD p 0).toNat_lt
  have h1 := (s.data.toList.getD (p + 1) 0).toNat_lt
  have h2 := (s.data.toList.getD (p + 2) 0).toNat_lt
  have h3 := (s.data.toList.getD (p + 3) 0).toNat_lt
  omega

theorem hit_key (s : ByteArray) (m k : Nat) (hp : m * 4 + 4 ≤ s.size) (hk : k < 4294967296) : hitAt s.data.toList (packL [k]) m = decide (wordAt s (m * 4) = k) := by
  unfold hitAt
  rw [show (packL [k]).length = 4 from packL_length [k]]
  have := word_eq s (m * 4) k hp hk
  by_cases h : wordAt s (m * 4) = k
  · rw [decide_eq_true h, this.2 h]; simp
  · rw [decide_eq_false h]
    simp only [beq_eq_false_iff_ne, ne_eq]
    exact fun e => h (this.1 e)

theorem hit_pair (s : ByteArray) (m k n : Nat) (hp : m * 8 + 8 ≤ s.size) (hk : k < 4294967296) (hn : n < 4294967296) : hitAt s.data.toList (packL [k, n]) m = (decide (wordAt s (m * 8) = k) && decide (wordAt s (m * 8 + 4) = n)) := by
  unfold hitAt
  rw [show (packL [k, n]).length = 8 from packL_length [k, n]]
  have h1 := word_eq s (m * 8) k (by omega) hk
  have h2 := word_eq s (m * 8 + 4) n (by omega) hn
  have hs : (s.data.toList.drop (m * 8)).take 8 = (s.data.toList.drop (m * 8)).take 4 ++ (s.data.toList.drop (m * 8 + 4)).take 4 := by
    rw [← List.drop_drop, show (8 : Nat) = 4 + 4 from rfl, List.take_add]
  have hq : packL [k, n] = packL [k] ++ packL [n] := by simp [packL]
  have l1 : ((s.data.toList.drop (m * 8)).take 4).length = (packL [k]).length := by
    rw [packL_length]
    simp only [List.length_take, List.length_drop]
    have := Lib.size_eq s
    simp
    omega
  rw [hs, hq, ← Bool.decide_and]
  have key : ((s.data.toList.drop (m * 8)).take 4 ++ (s.data.toList.drop (m * 8 + 4)).take 4 = packL [k] ++ packL [n]) ↔ ((s.data.toList.drop (m * 8)).take 4 = packL [k] ∧ (s.data.toList.drop (m * 8 + 4)).take 4 = packL [n]) := by
    constructor
    · intro e; exact List.append_inj e l1
    · rintro ⟨e1, e2⟩; rw [e1, e2]
  rw [h1, h2] at key
  rw [Bool.eq_iff_iff, beq_iff_eq, decide_eq_true_iff]
  exact key

set_option maxHeartbeats 400000 in
theorem haskey_any (list : ByteArray) (k : Nat) (w : World) (hl : list.size ≤ 1048576) (hk : k < 4294967296) :
    Calls Try.prog 16 #[.string list, .int .u32 (k : Int)] w fun e w' => e = .returned (.bool (holdsT list [k])) ∧ ∃ n, w' = w.drewN n := by
  have hp4 : (packL [k]).length = 4 := packL_length [k]
  have HP4 := hide hp4
  clear hp4
  go_enter Try.func16, Try.ntmps16
  go_wp2
  go_loopw [5] (fun i w' => ∃ m p : Nat, Hid (p = m * 4) ∧ i = .int .i64 (p : Int) ∧ p ≤ list.size + 4 ∧ Hid (∀ j, j < m → hitAt list.data.toList (packL [k]) j = false) ∧ Hid (∃ n, w' = w.drewN n)) (fun i _ => list.size + 5 - (intOf i).toNat)
  case atStart => exact ⟨0, 0, hide (by omega), rfl, by omega, hide (fun j hj => by omega), hide ⟨0, rfl⟩⟩
  case round =>
    obtain ⟨m, p, HP, rfl, hp, HN, HD⟩ := hrel
    by_cases hle : p + 4 ≤ list.size
    · have g2 : (p : Int) + 4 ≤ (list.size : Int) := by omega
      have hit := hit_key list m k (by rw [← HP.out]; exact hle) hk
      rw [← HP.out] at hit
      have HIT := hide hit
      clear hit
      go_wp2_with fail
      refine (word_at list p wr hle hl).mono ?_
      rintro e w2 ⟨rfl, n2, rfl⟩
      by_cases hq : wordAt list p = k
      · have hq2 : ((wordAt list p : Int) == (k : Int)) = true := by simp [hq]
        go_wp2
        go_ret
        obtain ⟨n0, hn0⟩ := HD.out
        refine ⟨?_, n0 + n2, by rw [hn0]; simp [World.drewN, Nat.add_assoc]⟩
        have : holdsT list [k] = true := (holdsL_iff _ _ (by rw [HP4.out]; omega)).2 ⟨m, by rw [HP4.out, ← Lib.size_eq, ← HP.out]; exact hle, by rw [HIT.out]; exact decide_eq_true hq⟩
        rw [this]; rfl
      · have hq2 : ((wordAt list p : Int) == (k : Int)) = false := by simp; omega
        go_wp2
        go_roundw
        case rel =>
          obtain ⟨n0, hn0⟩ := HD.out
          refine ⟨m + 1, p + 4, hide (by rw [HP.out, Nat.add_mul, Nat.one_mul]), by go_num, by omega, hide (fun j hj => ?_), hide ⟨n0 + n2, by rw [hn0]; simp [World.drewN, Nat.add_assoc]⟩⟩
          by_cases e : j = m
          · rw [e, HIT.out]; exact decide_eq_false hq
          · exact HN.out j (by omega)
        case measure => simp [intOf]; omega
    · have g2 : ¬ ((p : Int) + 4 ≤ (list.size : Int)) := by omega
      go_wp2
      go_ret
      refine ⟨?_, HD.out⟩
      have : holdsT list [k] = false := by
        rw [Bool.eq_false_iff]
        intro h
        obtain ⟨j, h1, h2⟩ := (holdsL_iff _ _ (by rw [HP4.out]; omega)).1 h
        rw [HP4.out, ← Lib.size_eq] at h1
        have hjm : j < m := by
          have := HP.out
          omega
        rw [HN.out j hjm] at h2
        cases h2
      rw [this]; rfl

set_option maxHeartbeats 400000 in
theorem haspair_any (list : ByteArray) (k n : Nat) (w : World) (hl : list.size ≤ 1048576) (hk : k < 4294967296) (hn : n < 4294967296) :
    Calls Try.prog 15 #[.string list, .int .u32 (k : Int), .int .u32 (n : Int)] w fun e w' => e = .returned (.bool (holdsT list [k, n])) ∧ ∃ c, w' = w.drewN c := by
  have hp4 : (packL [k, n]).length = 8 := packL_length [k, n]
  have HP4 := hide hp4
  clear hp4
  go_enter Try.func15, Try.ntmps15
  go_wp2
  go_loopw [7] (fun i w' => ∃ m p : Nat, Hid (p = m * 8) ∧ i = .int .i64 (p : Int) ∧ p ≤ list.size + 8 ∧ Hid (∀ j, j < m → hitAt list.data.toList (packL [k, n]) j = false) ∧ Hid (∃ c, w' = w.drewN c)) (fun i _ => list.size + 9 - (intOf i).toNat)
  case atStart => exact ⟨0, 0, hide (by omega), rfl, by omega, hide (fun j hj => by omega), hide ⟨0, rfl⟩⟩
  case round =>
    obtain ⟨m, p, HP, rfl, hp, HN, HD⟩ := hrel
    by_cases hle : p + 8 ≤ list.size
    · have g2 : (p : Int) + 8 ≤ (list.size : Int) := by omega
      have hit := hit_pair list m k n (by rw [← HP.out]; exact hle) hk hn
      rw [← HP.out] at hit
      have HIT := hide hit
      clear hit
      go_wp2_with fail
      refine (word_at list p wr (by omega) hl).mono ?_
      rintro e w2 ⟨rfl, n2, rfl⟩
      by_cases hq : wordAt list p = k
      · have hq2 : ((wordAt list p : Int) == (k : Int)) = true := by simp [hq]
        go_wp2_with fail
        refine (word_at list (p + 4) _ (by omega) hl).mono ?_
        rintro e w3 ⟨rfl, n3, rfl⟩
        by_cases hr : wordAt list (p + 4) = n
        · have hr2 : ((wordAt list (p + 4) : Int) == (n : Int)) = true := by simp [hr]
          go_wp2
          go_ret
          obtain ⟨n0, hn0⟩ := HD.out
          refine ⟨?_, n0 + n2 + n3, by rw [hn0]; simp [World.drewN, Nat.add_assoc]⟩
          have : holdsT list [k, n] = true := (holdsL_iff _ _ (by rw [HP4.out]; omega)).2 ⟨m, by rw [HP4.out, ← Lib.size_eq, ← HP.out]; exact hle, by rw [HIT.out, decide_eq_true hq, decide_eq_true hr]; rfl⟩
          rw [this]; rfl
        · have hr2 : ((wordAt list (p + 4) : Int) == (n : Int)) = false := by simp; omega
          go_wp2
          go_roundw
          case rel =>
            obtain ⟨n0, hn0⟩ := HD.out
            refine ⟨m + 1, p + 8, hide (by rw [HP.out, Nat.add_mul, Nat.one_mul]), by go_num, by omega, hide (fun j hj => ?_), hide ⟨n0 + n2 + n3, by rw [hn0]; simp [World.drewN, Nat.add_assoc]⟩⟩
            by_cases e : j = m
            · rw [e, HIT.out, decide_eq_false hr, Bool.and_false]
            · exact HN.out j (by omega)
          case measure => simp [intOf]; omega
      · have hq2 : ((wordAt list p : Int) == (k : Int)) = false := by simp; omega
        go_wp2
        go_roundw
        case rel =>
          obtain ⟨n0, hn0⟩ := HD.out
          refine ⟨m + 1, p + 8, hide (by rw [HP.out, Nat.add_mul, Nat.one_mul]), by go_num, by omega, hide (fun j hj => ?_), hide ⟨n0 + n2, by rw [hn0]; simp [World.drewN, Nat.add_assoc]⟩⟩
          by_cases e : j = m
          · rw [e, HIT.out, decide_eq_false hq, Bool.false_and]
          · exact HN.out j (by omega)
        case measure => simp [intOf]; omega
    · have g2 : ¬ ((p : Int) + 8 ≤ (list.size : Int)) := by omega
      go_wp2
      go_ret
      refine ⟨?_, HD.out⟩
      have : holdsT list [k, n] = false := by
        rw [Bool.eq_false_iff]
        intro h
        obtain ⟨j, h1, h2⟩ := (holdsL_iff _ _ (by rw [HP4.out]; omega)).1 h
        rw [HP4.out, ← Lib.size_eq] at h1
        have hjm : j < m := by
          have := HP.out
          omega
        rw [HN.out j hjm] at h2
        cases h2
      rw [this]; rfl

end Go.Proofs.Qxb6613471a
