/- io.WriteString on a builder; zzInSet and zzTrimLeft -/
import Derived.Test.YtcblhkcdolaigaaBld
namespace Go.Proofs.Ytcblhkcdolaigaa.Wrap
open Go.RowKit

theorem assert66 (v : Value) (w : World) : (Instr.typeAssert (.iface 57 v) 66 76 true).run Try.prog w = .ok (.tuple #[.iface 57 v, .bool true]) w := by kernel_rfl

theorem method_ws (a : Addr) (w : World) : (method 195 57 (.pointer (some a)) "WriteString").run Try.prog w = .ok (50, .pointer (some a)) w := by kernel_rfl

set_option maxHeartbeats 1000000 in
set_option maxRecDepth 100000 in
/-- io.WriteString writes to a builder by its WriteString. -/
theorem io_write (B b : Nat) (bs : List Value) (s : ByteArray) (w : World) (h : Lib.IsBuilder 59 5 B b bs w) (hlen : bs.length + s.size ≤ 140737488355328) (hBw : B ≤ w.heap.size) :
    Calls Try.prog 49 #[.iface 57 (.pointer (some ⟨b, 0, none⟩)), .string s] w fun e w' => e = .returned (.tuple #[.int .i64 s.size, .nilIface]) ∧ (Lib.BuilderAt 59 5 B b (.pointer (some ⟨b, 0, none⟩)) (bs ++ Lib.strCells s) w' ∧ Below B w w') := by
  have ha := fun (w : World) => assert66 (.pointer (some ⟨b, 0, none⟩)) w
  go_enter Try.func49, Try.ntmps49
  have hm := fun (w : World) => method_ws ⟨b, 0, none⟩ w
  go_wp2_with (go_at_call 50; refine (Bld.write B b bs s _ h hlen hBw).mono ?_)
  rintro e w1 ⟨rfl, h1, hb1⟩
  go_wp2
  go_ret2
  exact ⟨rfl, h1, hb1⟩

end Go.Proofs.Ytcblhkcdolaigaa.Wrap
