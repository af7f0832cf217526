import Derived.Test.Qxb6613067aDoorBt
namespace Go.Proofs.Qxb6613067aDoor
open Go.RowKit

theorem valFrom_ge (l : List UInt8) : ∀ a, a ≤ valFrom a l := by
  induction l with
  | nil => intro a; rw [valFrom_nil]; exact Nat.le_refl _
  | cons c l ih => intro a; rw [valFrom_cons]; have := ih (a * 10 + (c.toNat - 48)); omega
theorem val_take (l : List UInt8) (k : Nat) (h : k < l.length) : valFrom 0 (l.take (k + 1)) = valFrom 0 (l.take k) * 10 + (l[k].toNat - 48) ∧ valFrom 0 (l.take (k + 1)) ≤ valFrom 0 l := by
  refine ⟨?_, ?_⟩
  · rw [List.take_succ_eq_append_getElem h, valFrom_append, valFrom_cons, valFrom_nil]
  · have : valFrom 0 l = valFrom (valFrom 0 (l.take (k + 1))) (l.drop (k + 1)) := by rw [← valFrom_append, List.take_append_drop]
    rw [this]
    exact valFrom_ge _ _

/-- A numeral's first digit is 0 in "0" alone. -/
theorem dec_lead (u : Nat) (h : 1 ≤ u) (c : UInt8) (hc : (Lib.decDigits u)[0]? = some c) : c.toNat ≠ 48 := by
  induction u using Nat.strongRecOn generalizing c with
  | _ u ih =>
    by_cases h10 : u < 10
    · rw [Lib.decDigits_one h10] at hc
      simp only [List.getElem?_cons_zero, Option.some.injEq] at hc
      rw [← hc, ofNat_digit h10]; omega
    · rw [Lib.decDigits, dif_neg h10, List.getElem?_append_left (by rw [Lib.decDigits_length]; exact Lib.nDigits_pos _)] at hc
      exact ih (u / 10) (by omega) (by omega) c hc

theorem bret2 {k : IntKind} {a b : Int} {v : Value} (h : a = b) : Ending.returned (.tuple #[.int k a, v]) = .returned (.tuple #[.int k b, v]) := by rw [h]

/-- What a round of the loop needs: at place k of the digits lies a digit, and the number so far stays within the whole. -/
theorem round_facts (t : ByteArray) (s u k v lim : Nat) (hlt : k < t.size) (hk0 : s ≤ k) (hd : t.data.toList.drop s = Lib.decDigits u) (hv : v = valFrom 0 ((Lib.decDigits u).take (k - s))) (hu : u ≤ lim) :
    (48 : Int) ≤ (t[k].toNat : Int) ∧ (t[k].toNat : Int) ≤ 57 ∧ (v : Int) * 10 + ((t[k].toNat : Int) - 48) ≤ (lim : Int) ∧ Hid (v * 10 + (t[k].toNat - 48) = valFrom 0 ((Lib.decDigits u).take (k + 1 - s))) := by
  have hg : (Lib.decDigits u)[k - s]? = some t[k] := by
    rw [← hd, List.getElem?_drop, show s + (k - s) = k from by omega]; exact byte_at t k hlt
  obtain ⟨hl, hge⟩ := List.getElem?_eq_some_iff.1 hg
  have hdig := dec_all u t[k] (by rw [← hge]; exact List.getElem_mem _)
  obtain ⟨h1, h2⟩ := val_take (Lib.decDigits u) (k - s) hl
  rw [hge, ← hv] at h1
  rw [val_dec] at h2
  rw [show k + 1 - s = k - s + 1 from by omega]
  refine ⟨by omega, by omega, by omega, bhide h1.symm⟩

theorem wrap_minus (v : Nat) (h : v ≤ 9223372036854775808) : wrap64 (-wrap64 (v : Int)) = -(v : Int) := by unfold wrap64; omega

set_option maxHeartbeats 1000000 in
theorem parse_pos (t : ByteArray) (u : Nat) (w : World) (hd : Hid (t.data.toList.drop 0 = Lib.decDigits u)) (hu : u ≤ 9223372036854775807) (hsz : t.size ≤ 21) (hsz1 : 1 ≤ t.size)
    (h45 : ((t[0].toNat : Int) == 45) = false) (h48 : ((t[0].toNat : Int) == 48) = false ∨ ((t[0].toNat : Int) == 48) = true ∧ t.size = 1) :
    Calls Tryd.prog 12 #[.string t] w fun e w' => e = .returned (.tuple #[.int .i64 u, .bool true]) ∧ w' = w := by
  have hlen : t.size - 0 = (Lib.decDigits u).length := by rw [Lib.size_eq, ← hd.out]; simp
  have HL := bhide hlen
  clear hlen
  have hemp : ¬ t = ByteArray.empty := fun e => by rw [e] at hsz1; exact absurd hsz1 (by decide)
  have hne : decide ((0 : Int) < (t.size : Int)) = true := by simp; omega
  rcases h48 with h48 | ⟨h48, hone⟩
  · go_enter Tryd.func12, Tryd.ntmps12
    go_wp2
    go_loop [4, 7] (fun i m => ∃ k v : Nat, 0 ≤ k ∧ k ≤ t.size ∧ i = .int .i64 k ∧ m = .int .u64 v ∧ Hid (v = valFrom 0 ((Lib.decDigits u).take (k - 0))) ∧ v ≤ 9223372036854775807) (fun i _ => t.size - (intOf i).toNat)
    case atStart => exact ⟨0, 0, by omega, by omega, rfl, rfl, bhide (by rw [Nat.sub_self, List.take_zero, valFrom_nil]), by omega⟩
    case round =>
      obtain ⟨k, v, hk0, hk, rfl, rfl, HV, hv⟩ := hrel
      by_cases hlt : k < t.size
      · obtain ⟨hc0, hc1, hm, HN⟩ := round_facts t 0 u k v 9223372036854775807 hlt hk0 hd.out HV.out hu
        go_wp2
        go_round
        case rel => exact ⟨k + 1, v * 10 + (t[k].toNat - 48), by omega, by omega, by go_num, by go_num, HN, by omega⟩
        case measure => simp [intOf]; omega
      · obtain rfl : k = t.size := by omega
        have hfin : v = u := by have := HV.out; rwa [HL.out, List.take_of_length_le (Nat.le_refl _), val_dec] at this
        subst hfin
        go_wp2
        go_ret2
        exact ⟨rfl, rfl⟩
  · have hone' : ((t.size : Int) != 1) = false := by rw [hone]; rfl
    have HO := bhide hone
    clear hone
    go_enter Tryd.func12, Tryd.ntmps12
    go_wp2
    go_loop [4, 7] (fun i m => ∃ k v : Nat, 0 ≤ k ∧ k ≤ t.size ∧ i = .int .i64 k ∧ m = .int .u64 v ∧ Hid (v = valFrom 0 ((Lib.decDigits u).take (k - 0))) ∧ v ≤ 9223372036854775807) (fun i _ => t.size - (intOf i).toNat)
    case atStart => exact ⟨0, 0, by omega, by omega, rfl, rfl, bhide (by rw [Nat.sub_self, List.take_zero, valFrom_nil]), by omega⟩
    case round =>
      obtain ⟨k, v, hk0, hk, rfl, rfl, HV, hv⟩ := hrel
      by_cases hlt : k < t.size
      · obtain ⟨hc0, hc1, hm, HN⟩ := round_facts t 0 u k v 9223372036854775807 hlt hk0 hd.out HV.out hu
        go_wp2
        go_round
        case rel => exact ⟨k + 1, v * 10 + (t[k].toNat - 48), by omega, by omega, by go_num, by go_num, HN, by omega⟩
        case measure => simp [intOf]; omega
      · obtain rfl : k = t.size := by omega
        have hfin : v = u := by have := HV.out; rwa [HL.out, List.take_of_length_le (Nat.le_refl _), val_dec] at this
        subst hfin
        go_wp2
        go_ret2
        exact ⟨rfl, rfl⟩

set_option maxHeartbeats 1000000 in
theorem parse_neg (t : ByteArray) (u : Nat) (w : World) (hd : Hid (t.data.toList.drop 1 = Lib.decDigits u)) (hu : u ≤ 9223372036854775808) (hsz : t.size ≤ 21) (hsz1 : 2 ≤ t.size)
    (h45 : ((t[0].toNat : Int) == 45) = true) (h48 : ((t[1].toNat : Int) == 48) = false) :
    Calls Tryd.prog 12 #[.string t] w fun e w' => e = .returned (.tuple #[.int .i64 (-(u : Int)), .bool true]) ∧ w' = w := by
  have hlen : t.size - 1 = (Lib.decDigits u).length := by rw [Lib.size_eq, ← hd.out]; simp
  have HL := bhide hlen
  clear hlen
  have hemp : ¬ t = ByteArray.empty := fun e => by rw [e] at hsz1; exact absurd hsz1 (by decide)
  have hne : decide ((0 : Int) < (t.size : Int)) = true := by simp; omega
  have hge : ¬ (t.size : Int) ≤ 1 := by omega
  have h1 : 1 < t.size := by omega
  · go_enter Tryd.func12, Tryd.ntmps12
    go_wp2
    go_loop [4, 7] (fun i m => ∃ k v : Nat, 1 ≤ k ∧ k ≤ t.size ∧ i = .int .i64 k ∧ m = .int .u64 v ∧ Hid (v = valFrom 0 ((Lib.decDigits u).take (k - 1))) ∧ v ≤ 9223372036854775808) (fun i _ => t.size - (intOf i).toNat)
    case atStart => exact ⟨1, 0, by omega, by omega, rfl, rfl, bhide (by rw [Nat.sub_self, List.take_zero, valFrom_nil]), by omega⟩
    case round =>
      obtain ⟨k, v, hk0, hk, rfl, rfl, HV, hv⟩ := hrel
      by_cases hlt : k < t.size
      · obtain ⟨hc0, hc1, hm, HN⟩ := round_facts t 1 u k v 9223372036854775808 hlt hk0 hd.out HV.out hu
        go_wp2
        go_round
        case rel => exact ⟨k + 1, v * 10 + (t[k].toNat - 48), by omega, by omega, by go_num, by go_num, HN, by omega⟩
        case measure => simp [intOf]; omega
      · obtain rfl : k = t.size := by omega
        have hfin : v = u := by have := HV.out; rwa [HL.out, List.take_of_length_le (Nat.le_refl _), val_dec] at this
        subst hfin
        go_wp2
        go_ret2
        exact ⟨bret2 (wrap_minus v hv), rfl⟩

theorem parse_any (x : Int) (w : World) (hx0 : -9223372036854775808 ≤ x) (hx1 : x ≤ 9223372036854775807) :
    Calls Tryd.prog 12 #[.string (num x)] w fun e w' => e = .returned (.tuple #[.int .i64 x, .bool true]) ∧ w' = w := by
  have hl := Lib.itoa_length_le x hx0 hx1
  have hs := num_size x
  have hs1 := itoa_ne x
  by_cases hn : x < 0
  · obtain ⟨u, hu⟩ : ∃ u : Nat, x = -(u : Int) := ⟨x.natAbs, by omega⟩
    have hdat : (num x).data.toList = 45 :: Lib.decDigits u := by rw [num_data, itoa_minus hn, show x.natAbs = u from by omega]
    have hz : (num x).size = 1 + Lib.nDigits u := by rw [Lib.size_eq, hdat, List.length_cons, Lib.decDigits_length]; omega
    have hnd := Lib.nDigits_pos u
    have b0 := byte_at (num x) 0 (by omega)
    have b1 := byte_at (num x) 1 (by omega)
    rw [hdat] at b0 b1
    have key := parse_neg (num x) u w (bhide (by rw [hdat]; rfl)) (by omega) (by omega) (by omega) (by rw [← Option.some.inj b0]; rfl) (beq_eq_false_iff_ne.2 (fun e => dec_lead u (by omega) _ (by simpa using b1) (by omega)))
    rw [← hu] at key
    exact key
  · obtain ⟨u, hu⟩ : ∃ u : Nat, x = (u : Int) := ⟨x.toNat, by omega⟩
    have hdat : (num x).data.toList = Lib.decDigits u := by rw [num_data, itoa_pos (by omega), show x.toNat = u from by omega]
    have b0 := byte_at (num x) 0 (by omega)
    rw [hdat] at b0
    have hd0 := dec_all u _ (List.mem_of_getElem? b0)
    have key := parse_pos (num x) u w (bhide (by rw [hdat]; rfl)) (by omega) (by omega) (by omega) (beq_eq_false_iff_ne.2 (by omega)) ?_
    · rw [← hu] at key
      exact key
    · by_cases h0 : u = 0
      · right
        subst h0
        have hz : (num x).size = 1 := by rw [Lib.size_eq, hdat, Lib.decDigits_length, Lib.nDigits_small (by omega)]
        rw [Lib.decDigits_one (by omega)] at b0
        refine ⟨?_, hz⟩
        simp only [List.getElem?_cons_zero, Option.some.injEq] at b0
        rw [← b0]; rfl
      · left
        exact beq_eq_false_iff_ne.2 (fun e => dec_lead u (by omega) _ b0 (by omega))

end Go.Proofs.Qxb6613067aDoor
