import Derived.Test.Qxb6613471aSv
namespace Go.Proofs.Qxb6613471a
open Go.RowKit

theorem seaf_no (e st r : Value) (i : Int) (o k s : Int) (w : World) (ho : o ≠ 1) :
    Calls Try.prog 21 #[e, st, .int .i64 i, r, .agg #[.slice none 0 0, .int .u8 o, .int .u32 k, .int .u32 s, .int .u32 0]] w fun x w' => x = .returned (.tuple #[]) ∧ Kept [] w w' := by
  have hb : (o != 1) = true := by simp [ho]
  go_enter Try.func21, Try.ntmps21
  go_wp2
  refine bodyPost_ret (results_none rfl _ _ _) rfl ?_
  exact ⟨rfl, (Kept.refl _ _).alloc _⟩

theorem zseaf_no (e st r : Value) (i : Int) (o k s : Int) (w : World) (ho : o ≠ 1) :
    Calls Try.prog 12 #[e, st, .int .i64 i, r, .int .u8 o, .int .u32 k, .int .u32 s] w fun x w' => x = .returned (.tuple #[]) ∧ Kept [] w w' := by
  go_enter Try.func12, Try.ntmps12
  go_wp2_with fail
  refine (seaf_no e st r i o k s w ho).mono ?_
  rintro x w2 ⟨rfl, k2⟩
  have K2 := hide k2
  clear k2
  go_wp2
  refine bodyPost_end (results_none rfl _ _ _) rfl ?_
  exact ⟨rfl, K2.out⟩

theorem sz5 (a0 a1 : Option Addr) (n0 c0 n1 c1 : Nat) (i : Int) (s1 s2 s3 : ByteArray) (b : Int) (s4 s5 : ByteArray) (o k p : Int) (w : World) (h0 : n0 ≤ maxLen) (h1 : n1 ≤ maxLen) (h2 : s1.size ≤ maxLen) (h3 : s2.size ≤ maxLen) (h4 : s3.size ≤ maxLen) (h5 : s4.size ≤ maxLen) (h6 : s5.size ≤ maxLen) :
    Calls Try.prog 5 #[.slice a0 n0 c0, .slice a1 n1 c1, .int .i64 i, .string s1, .string s2, .string s3, .int .u16 b, .string s4, .string s5, .int .u8 o, .int .u32 k, .int .u32 p] w fun e w' => (∃ t, e = .returned (.bool t)) ∧ w' = w := by
  unfold maxLen at *
  go_enter Try.func5, Try.ntmps5
  go_wp2
  all_goals (go_ret; exact ⟨⟨_, rfl⟩, rfl⟩)

end Go.Proofs.Qxb6613471a
