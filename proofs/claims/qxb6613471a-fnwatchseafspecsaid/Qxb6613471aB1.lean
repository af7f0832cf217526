import Derived.Test.Qxb6613471aFd
namespace Go.Proofs.Qxb6613471a
open Go.RowKit

theorem sz18 (a0 a1 : Option Addr) (n0 c0 n1 c1 : Nat) (i : Int) (s1 s2 s3 : ByteArray) (b : Int) (s4 s5 : ByteArray) (k p : Int) (w : World) (h0 : n0 ≤ maxLen) (h1 : n1 ≤ maxLen) (h2 : s1.size ≤ maxLen) (h3 : s2.size ≤ maxLen) (h4 : s3.size ≤ maxLen) (h5 : s4.size ≤ maxLen) (h6 : s5.size ≤ maxLen) :
    Calls Try.prog 18 #[.slice a0 n0 c0, .slice a1 n1 c1, .int .i64 i, .string s1, .string s2, .string s3, .int .u16 b, .string s4, .string s5, .int .u32 k, .int .u32 p] w fun e w' => (∃ t, e = .returned (.bool t)) ∧ w' = w := by
  unfold maxLen at *
  go_enter Try.func18, Try.ntmps18
  go_wp2
  all_goals (go_ret; exact ⟨⟨_, rfl⟩, rfl⟩)

end Go.Proofs.Qxb6613471a
