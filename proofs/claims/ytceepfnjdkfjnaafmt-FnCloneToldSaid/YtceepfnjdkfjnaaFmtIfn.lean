/-
  A node held against nil. No condition.
-/
import Derived.Test.YtceepfnjdkfjnaaFmtAssert
namespace Go.Proofs.YtceepfnjdkfjnaaFmt
theorem ne_nil1 (u : TypeId) (v : Value) (W : World) : (binOp .neq 75 (.iface u v) .nilIface).run Tryf.prog W = .ok (.bool true) W := by kernel_rfl
theorem ne_nil0 (W : World) : (binOp .neq 75 .nilIface .nilIface).run Tryf.prog W = .ok (.bool false) W := by kernel_rfl
theorem eq_nil1 (u : TypeId) (v : Value) (W : World) : (binOp .eql 75 (.iface u v) .nilIface).run Tryf.prog W = .ok (.bool false) W := by kernel_rfl
theorem eq_nil0 (W : World) : (binOp .eql 75 .nilIface .nilIface).run Tryf.prog W = .ok (.bool true) W := by kernel_rfl
end Go.Proofs.YtceepfnjdkfjnaaFmt
