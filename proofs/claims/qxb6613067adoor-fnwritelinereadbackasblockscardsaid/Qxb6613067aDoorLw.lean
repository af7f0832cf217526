import Derived.Test.Qxb6613067aDoorLr
import Derived.Test.Qxb6613067aDoorShelfB
import Derived.Lib.SliceRun
namespace Go.Proofs.Qxb6613067aDoor
open Go.RowKit

theorem assert_sw (a : Addr) (w : World) : (Instr.typeAssert (.iface 49 (.pointer (some a))) 78 90 true).run Tryd.prog w = .ok (.tuple #[.iface 49 (.pointer (some a)), .bool true]) w := by kernel_rfl
theorem method_ws (a : Addr) (w : World) : (method 234 49 (.pointer (some a)) "WriteString").run Tryd.prog w = .ok (73, .pointer (some a)) w := by kernel_rfl
theorem nil_ws (a : Addr) (w : World) : (nilAhead 234 49 (.pointer (some a)) "WriteString").run Tryd.prog w = .ok (some false) w := by kernel_rfl

/-- The line and its newline. -/
def lineOf (l : ByteArray) : List UInt8 := l.data.toList ++ [10]

theorem line_data (line : ByteArray) : (line ++ (⟨#[10]⟩ : ByteArray)).data.toList = lineOf line := by
  simp [lineOf]
theorem line_size (line : ByteArray) : (line ++ (⟨#[10]⟩ : ByteArray)).size = line.size + 1 := by
  rw [Lib.size_eq, line_data, Lib.size_eq line]; simp [lineOf]

set_option maxHeartbeats 400000 in
theorem wl_any (B b : Nat) (l0 : List UInt8) (line : ByteArray) (w : World) (h : Lib.IsBuffer 67 5 B b (Lib.byteCells l0) w) (hBw : B ≤ w.heap.size) (hlim : l0.length + line.size ≤ 4194304) :
    Calls Tryd.prog 25 #[.pointer (some ⟨b, 0, none⟩), .string line] w fun e w' => e = .returned .nilIface ∧ Lib.IsBuffer 67 5 B b (Lib.byteCells (l0 ++ lineOf line)) w' ∧ Below B w w' := by
  have HB := hide h
  clear h
  have hta := assert_sw
  have hm := method_ws
  have hnl := nil_ws
  go_enter Tryd.func25, Tryd.ntmps25
  go_wp2_with (first | (go_at_call 34; go_in) | (go_at_call 39; go_in))
  refine (Tryd.Buffer_WriteString_k B b _ (line ++ (⟨#[10]⟩ : ByteArray)) w HB.out hBw (Lib.byteCells_one _) (by rw [line_size, Lib.byteCells_length]; omega)).mono ?_
  rintro e w1 ⟨rfl, h1, b1, -⟩
  rw [line_data, ← Lib.byteCells_append] at h1
  have H1 := hide h1
  clear h1 HB
  go_wp2
  go_ret
  exact ⟨rfl, H1.out, b1⟩

end Go.Proofs.Qxb6613067aDoor
