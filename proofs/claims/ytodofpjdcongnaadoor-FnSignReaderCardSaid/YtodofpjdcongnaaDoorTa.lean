/- The reader that is a bytes.Buffer is told by its type. -/
import Derived.Test.YtodofpjdcongnaaDoorArr
namespace Go.Proofs.YtodofpjdcongnaaDoor.Sign
open Go.RowKit
theorem ta_buf (p : Value) (W : World) : (Instr.typeAssert (.iface 47 p) 59 47 true).run Tryd.prog W = .ok (.tuple #[p, .bool true]) W := by kernel_rfl
theorem zero68 : ((Tryd.prog.info? 68).bind (·.zero)).isSome = true := by kernel_rfl
end Go.Proofs.YtodofpjdcongnaaDoor.Sign
