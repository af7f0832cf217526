import Derived.Test.Qxb6613471aPk
namespace Go.Proofs.Qxb6613471a
open Go.RowKit

/-- Does the k-th tuple of the list (each as long as want) read want? -/
def hitAt (list want : List UInt8) (k : Nat) : Bool := (list.drop (k * want.length)).take want.length == want
/-- Does the list of tuples hold want? -/
def holdsL (list want : List UInt8) : Bool := (List.range (list.length / want.length)).any (hitAt list want)

theorem holdsL_iff (list want : List UInt8) (hw : 1 ≤ want.length) : holdsL list want = true ↔ ∃ k, k * want.length + want.length ≤ list.length ∧ hitAt list want k = true := by
  unfold holdsL
  rw [List.any_eq_true]
  constructor
  · rintro ⟨k, hk, h⟩
    refine ⟨k, ?_, h⟩
    have := List.mem_range.1 hk
    have h2 := (Nat.le_div_iff_mul_le (by omega : 0 < want.length)).1 (show k + 1 ≤ list.length / want.length from this)
    rw [Nat.add_mul, Nat.one_mul] at h2
    exact h2
  · rintro ⟨k, hk, h⟩
    refine ⟨k, List.mem_range.2 ?_, h⟩
    have : k + 1 ≤ list.length / want.length := (Nat.le_div_iff_mul_le (by omega)).2 (by rw [Nat.add_mul, Nat.one_mul]; exact hk)
    exact this

theorem piece_eq (list want : ByteArray) (k p : Nat) (hp : p = k * want.size) : ((list.extract p (p + want.size)).toList == want.toList) = hitAt list.data.toList want.data.toList k := by
  subst hp
  rw [Lib.extract_toList, Lib.toList_data]
  unfold hitAt
  rw [← Lib.size_eq, Nat.add_sub_cancel_left]

set_option maxHeartbeats 400000 in
theorem find_any (list want : ByteArray) (w : World) (hl : list.size ≤ 1048576) (hw : 1 ≤ want.size) (hw2 : want.size ≤ 1000) :
    Calls Try.prog 28 #[.string list, .string want] w fun e w' => ∃ r : Int, e = .returned (.int .i64 r) ∧ decide (0 ≤ r) = holdsL list.data.toList want.data.toList ∧ w' = w := by
  go_enter Try.func28, Try.ntmps28
  go_wp2
  go_loop [5] (fun i => ∃ k p : Nat, Hid (p = k * want.size) ∧ i = .int .i64 p ∧ p ≤ list.size + want.size ∧ Hid (∀ j, j < k → hitAt list.data.toList want.data.toList j = false)) (fun i => list.size + want.size + 1 - (intOf i).toNat)
  case atStart => exact ⟨0, 0, hide (by omega), rfl, by omega, hide (fun j hj => by omega)⟩
  case round =>
    obtain ⟨k, p, HP, rfl, hp, HN⟩ := hrel
    by_cases hle : p + want.size ≤ list.size
    · have g0 : (0 : Int) ≤ (p : Int) := by omega
      have g1 : (p : Int) ≤ (p : Int) + (want.size : Int) := by omega
      have g2 : (p : Int) + (want.size : Int) ≤ (list.size : Int) := by omega
      cases hh : hitAt list.data.toList want.data.toList k with
      | true =>
        have hq : ((list.extract p (p + want.size)).toList == want.toList) = true := by rw [piece_eq list want k p HP.out]; exact hh
        have HH := hide hh
        clear hh
        go_wp2
        go_ret
        refine ⟨p, rfl, ?_, rfl⟩
        rw [(holdsL_iff _ _ (by rw [← Lib.size_eq]; exact hw)).2 ⟨k, by rw [← Lib.size_eq, ← Lib.size_eq, ← HP.out]; exact hle, HH.out⟩]
        simp
      | false =>
        have hq : ((list.extract p (p + want.size)).toList == want.toList) = false := by rw [piece_eq list want k p HP.out]; exact hh
        have HN2 : Hid (∀ j, j < k + 1 → hitAt list.data.toList want.data.toList j = false) := hide (fun j hj => by
          by_cases e : j = k
          · rw [e]; exact hh
          · exact HN.out j (by omega))
        have HP2 : Hid (p + want.size = (k + 1) * want.size) := hide (by rw [HP.out, Nat.add_mul, Nat.one_mul])
        clear hh HN HP
        go_wp2
        go_round
        case rel => exact ⟨k + 1, p + want.size, HP2, by go_num, by omega, HN2⟩
        case measure => simp [intOf]; omega
    · have hno : holdsL list.data.toList want.data.toList = false := by
        rw [Bool.eq_false_iff]
        intro h
        obtain ⟨j, hj, hit⟩ := (holdsL_iff _ _ (by rw [← Lib.size_eq]; exact hw)).1 h
        rw [← Lib.size_eq, ← Lib.size_eq] at hj
        by_cases hjk : j < k
        · rw [HN.out j hjk] at hit; cases hit
        · have hm : k * want.size ≤ j * want.size := Nat.mul_le_mul_right _ (by omega)
          have := HP.out
          omega
      have HNO := hide hno
      clear hno HN HP
      go_wp2
      go_ret
      exact ⟨-1, rfl, by rw [HNO.out]; rfl, rfl⟩

/-- holds(list, ts...). -/
def holdsT (list : ByteArray) (ts : List Nat) : Bool := holdsL list.data.toList (packL ts)

set_option maxHeartbeats 400000 in
theorem holds_any (list : ByteArray) (g : Nat) (ts : List Nat) (w : World) (hls : list.size ≤ 1048576) (hg : ∀ j (h : j < ts.length), w.cell? ⟨g, j, none⟩ = some (.int .u32 (ts[j] : Int))) (hgl : g < w.heap.size) (h32 : ∀ t ∈ ts, t < 4294967296) (hl : ts.length ≤ 100) (hl1 : 1 ≤ ts.length) :
    Calls Try.prog 24 #[.string list, .slice (some ⟨g, 0, none⟩) ts.length ts.length] w fun e w' => e = .returned (.bool (holdsT list ts)) ∧ Below w.heap.size w w' := by
  have hp := pack_any g ts w hg hgl h32 (by omega) hl1
  have hps : (packS ts).size = 4 * ts.length := by rw [Lib.size_eq, ← packL_length ts]; rfl
  have HP := hide hp
  have HS := hide hps
  clear hp hps hg h32
  go_enter Try.func24, Try.ntmps24
  go_wp2_with fail
  refine HP.out.mono ?_
  rintro e w1 ⟨rfl, b1⟩
  clear HP
  go_wp2_with fail
  refine (find_any list (packS ts) w1 hls (by rw [HS.out]; omega) (by rw [HS.out]; omega)).mono ?_
  rintro e w1' ⟨r, rfl, hr, rfl⟩
  have HR := hide hr
  clear hr
  go_wp2
  go_ret
  exact ⟨congrArg (fun b => Ending.returned (.bool b)) HR.out, b1⟩

end Go.Proofs.Qxb6613471a
