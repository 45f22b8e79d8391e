/-
  A node held against nil. No condition.
-/
import Derived.Test.YthppionkcfkafaaFmtAssert
namespace Go.Proofs.YthppionkcfkafaaFmt
theorem ne_nil1 (u : TypeId) (v : Value) (W : World) : (binOp .neq 40 (.iface u v) .nilIface).run Tryf.prog W = .ok (.bool true) W := by kernel_rfl
theorem ne_nil0 (W : World) : (binOp .neq 40 .nilIface .nilIface).run Tryf.prog W = .ok (.bool false) W := by kernel_rfl
theorem eq_nil1 (u : TypeId) (v : Value) (W : World) : (binOp .eql 40 (.iface u v) .nilIface).run Tryf.prog W = .ok (.bool false) W := by kernel_rfl
theorem eq_nil0 (W : World) : (binOp .eql 40 .nilIface .nilIface).run Tryf.prog W = .ok (.bool true) W := by kernel_rfl
end Go.Proofs.YthppionkcfkafaaFmt
