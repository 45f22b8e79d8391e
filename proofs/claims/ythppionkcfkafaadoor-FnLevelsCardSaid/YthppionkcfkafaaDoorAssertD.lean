/-
  What a type assertion of a node gives. No condition.
-/
import Derived.Test.YthppionkcfkafaaDoorAst
namespace Go.Proofs.YthppionkcfkafaaDoor
open Go.ChangeShapes Go.WideShapes Go.ChangeAt Go.RowKit Go.Joins

theorem ta_Apply (u : TypeId) (v : Value) (W : World) : (Instr.typeAssert (.iface u v) 54 74 true).run Tryd.prog W = .ok (if u = 74 then .tuple #[v, .bool true] else .tuple #[.pointer none, .bool false]) W := by
  have e : (Instr.typeAssert (.iface u v) 54 74 true).run Tryd.prog W = (if u = 74 then (pure (Value.tuple #[v, .bool true]) : Sem Value) else (do pure (Value.tuple #[← zeroValue 74, .bool false]))).run Tryd.prog W := by kernel_rfl
  have z : (do pure (Value.tuple #[← zeroValue 74, .bool false]) : Sem Value).run Tryd.prog W = .ok (.tuple #[.pointer none, .bool false]) W := by kernel_rfl
  rw [e]; split
  · rfl
  · exact z
theorem ta_ApplyBrace (u : TypeId) (v : Value) (W : World) : (Instr.typeAssert (.iface u v) 54 75 true).run Tryd.prog W = .ok (if u = 75 then .tuple #[v, .bool true] else .tuple #[.pointer none, .bool false]) W := by
  have e : (Instr.typeAssert (.iface u v) 54 75 true).run Tryd.prog W = (if u = 75 then (pure (Value.tuple #[v, .bool true]) : Sem Value) else (do pure (Value.tuple #[← zeroValue 75, .bool false]))).run Tryd.prog W := by kernel_rfl
  have z : (do pure (Value.tuple #[← zeroValue 75, .bool false]) : Sem Value).run Tryd.prog W = .ok (.tuple #[.pointer none, .bool false]) W := by kernel_rfl
  rw [e]; split
  · rfl
  · exact z
theorem ta_Assert (u : TypeId) (v : Value) (W : World) : (Instr.typeAssert (.iface u v) 54 95 true).run Tryd.prog W = .ok (if u = 95 then .tuple #[v, .bool true] else .tuple #[.pointer none, .bool false]) W := by
  have e : (Instr.typeAssert (.iface u v) 54 95 true).run Tryd.prog W = (if u = 95 then (pure (Value.tuple #[v, .bool true]) : Sem Value) else (do pure (Value.tuple #[← zeroValue 95, .bool false]))).run Tryd.prog W := by kernel_rfl
  have z : (do pure (Value.tuple #[← zeroValue 95, .bool false]) : Sem Value).run Tryd.prog W = .ok (.tuple #[.pointer none, .bool false]) W := by kernel_rfl
  rw [e]; split
  · rfl
  · exact z
theorem ta_Binary (u : TypeId) (v : Value) (W : World) : (Instr.typeAssert (.iface u v) 54 80 true).run Tryd.prog W = .ok (if u = 80 then .tuple #[v, .bool true] else .tuple #[.pointer none, .bool false]) W := by
  have e : (Instr.typeAssert (.iface u v) 54 80 true).run Tryd.prog W = (if u = 80 then (pure (Value.tuple #[v, .bool true]) : Sem Value) else (do pure (Value.tuple #[← zeroValue 80, .bool false]))).run Tryd.prog W := by kernel_rfl
  have z : (do pure (Value.tuple #[← zeroValue 80, .bool false]) : Sem Value).run Tryd.prog W = .ok (.tuple #[.pointer none, .bool false]) W := by kernel_rfl
  rw [e]; split
  · rfl
  · exact z
theorem ta_Conditional (u : TypeId) (v : Value) (W : World) : (Instr.typeAssert (.iface u v) 54 100 true).run Tryd.prog W = .ok (if u = 100 then .tuple #[v, .bool true] else .tuple #[.pointer none, .bool false]) W := by
  have e : (Instr.typeAssert (.iface u v) 54 100 true).run Tryd.prog W = (if u = 100 then (pure (Value.tuple #[v, .bool true]) : Sem Value) else (do pure (Value.tuple #[← zeroValue 100, .bool false]))).run Tryd.prog W := by kernel_rfl
  have z : (do pure (Value.tuple #[← zeroValue 100, .bool false]) : Sem Value).run Tryd.prog W = .ok (.tuple #[.pointer none, .bool false]) W := by kernel_rfl
  rw [e]; split
  · rfl
  · exact z
theorem ta_Error (u : TypeId) (v : Value) (W : World) : (Instr.typeAssert (.iface u v) 54 96 true).run Tryd.prog W = .ok (if u = 96 then .tuple #[v, .bool true] else .tuple #[.pointer none, .bool false]) W := by
  have e : (Instr.typeAssert (.iface u v) 54 96 true).run Tryd.prog W = (if u = 96 then (pure (Value.tuple #[v, .bool true]) : Sem Value) else (do pure (Value.tuple #[← zeroValue 96, .bool false]))).run Tryd.prog W := by kernel_rfl
  have z : (do pure (Value.tuple #[← zeroValue 96, .bool false]) : Sem Value).run Tryd.prog W = .ok (.tuple #[.pointer none, .bool false]) W := by kernel_rfl
  rw [e]; split
  · rfl
  · exact z
theorem ta_Import (u : TypeId) (v : Value) (W : World) : (Instr.typeAssert (.iface u v) 54 97 true).run Tryd.prog W = .ok (if u = 97 then .tuple #[v, .bool true] else .tuple #[.pointer none, .bool false]) W := by
  have e : (Instr.typeAssert (.iface u v) 54 97 true).run Tryd.prog W = (if u = 97 then (pure (Value.tuple #[v, .bool true]) : Sem Value) else (do pure (Value.tuple #[← zeroValue 97, .bool false]))).run Tryd.prog W := by kernel_rfl
  have z : (do pure (Value.tuple #[← zeroValue 97, .bool false]) : Sem Value).run Tryd.prog W = .ok (.tuple #[.pointer none, .bool false]) W := by kernel_rfl
  rw [e]; split
  · rfl
  · exact z
theorem ta_ImportBin (u : TypeId) (v : Value) (W : World) : (Instr.typeAssert (.iface u v) 54 99 true).run Tryd.prog W = .ok (if u = 99 then .tuple #[v, .bool true] else .tuple #[.pointer none, .bool false]) W := by
  have e : (Instr.typeAssert (.iface u v) 54 99 true).run Tryd.prog W = (if u = 99 then (pure (Value.tuple #[v, .bool true]) : Sem Value) else (do pure (Value.tuple #[← zeroValue 99, .bool false]))).run Tryd.prog W := by kernel_rfl
  have z : (do pure (Value.tuple #[← zeroValue 99, .bool false]) : Sem Value).run Tryd.prog W = .ok (.tuple #[.pointer none, .bool false]) W := by kernel_rfl
  rw [e]; split
  · rfl
  · exact z
theorem ta_ImportStr (u : TypeId) (v : Value) (W : World) : (Instr.typeAssert (.iface u v) 54 98 true).run Tryd.prog W = .ok (if u = 98 then .tuple #[v, .bool true] else .tuple #[.pointer none, .bool false]) W := by
  have e : (Instr.typeAssert (.iface u v) 54 98 true).run Tryd.prog W = (if u = 98 then (pure (Value.tuple #[v, .bool true]) : Sem Value) else (do pure (Value.tuple #[← zeroValue 98, .bool false]))).run Tryd.prog W := by kernel_rfl
  have z : (do pure (Value.tuple #[← zeroValue 98, .bool false]) : Sem Value).run Tryd.prog W = .ok (.tuple #[.pointer none, .bool false]) W := by kernel_rfl
  rw [e]; split
  · rfl
  · exact z
theorem ta_InSuper (u : TypeId) (v : Value) (W : World) : (Instr.typeAssert (.iface u v) 54 93 true).run Tryd.prog W = .ok (if u = 93 then .tuple #[v, .bool true] else .tuple #[.pointer none, .bool false]) W := by
  have e : (Instr.typeAssert (.iface u v) 54 93 true).run Tryd.prog W = (if u = 93 then (pure (Value.tuple #[v, .bool true]) : Sem Value) else (do pure (Value.tuple #[← zeroValue 93, .bool false]))).run Tryd.prog W := by kernel_rfl
  have z : (do pure (Value.tuple #[← zeroValue 93, .bool false]) : Sem Value).run Tryd.prog W = .ok (.tuple #[.pointer none, .bool false]) W := by kernel_rfl
  rw [e]; split
  · rfl
  · exact z
theorem ta_Index (u : TypeId) (v : Value) (W : World) : (Instr.typeAssert (.iface u v) 54 76 true).run Tryd.prog W = .ok (if u = 76 then .tuple #[v, .bool true] else .tuple #[.pointer none, .bool false]) W := by
  have e : (Instr.typeAssert (.iface u v) 54 76 true).run Tryd.prog W = (if u = 76 then (pure (Value.tuple #[v, .bool true]) : Sem Value) else (do pure (Value.tuple #[← zeroValue 76, .bool false]))).run Tryd.prog W := by kernel_rfl
  have z : (do pure (Value.tuple #[← zeroValue 76, .bool false]) : Sem Value).run Tryd.prog W = .ok (.tuple #[.pointer none, .bool false]) W := by kernel_rfl
  rw [e]; split
  · rfl
  · exact z
theorem ta_Local (u : TypeId) (v : Value) (W : World) : (Instr.typeAssert (.iface u v) 54 94 true).run Tryd.prog W = .ok (if u = 94 then .tuple #[v, .bool true] else .tuple #[.pointer none, .bool false]) W := by
  have e : (Instr.typeAssert (.iface u v) 54 94 true).run Tryd.prog W = (if u = 94 then (pure (Value.tuple #[v, .bool true]) : Sem Value) else (do pure (Value.tuple #[← zeroValue 94, .bool false]))).run Tryd.prog W := by kernel_rfl
  have z : (do pure (Value.tuple #[← zeroValue 94, .bool false]) : Sem Value).run Tryd.prog W = .ok (.tuple #[.pointer none, .bool false]) W := by kernel_rfl
  rw [e]; split
  · rfl
  · exact z
theorem ta_Slice (u : TypeId) (v : Value) (W : World) : (Instr.typeAssert (.iface u v) 54 78 true).run Tryd.prog W = .ok (if u = 78 then .tuple #[v, .bool true] else .tuple #[.pointer none, .bool false]) W := by
  have e : (Instr.typeAssert (.iface u v) 54 78 true).run Tryd.prog W = (if u = 78 then (pure (Value.tuple #[v, .bool true]) : Sem Value) else (do pure (Value.tuple #[← zeroValue 78, .bool false]))).run Tryd.prog W := by kernel_rfl
  have z : (do pure (Value.tuple #[← zeroValue 78, .bool false]) : Sem Value).run Tryd.prog W = .ok (.tuple #[.pointer none, .bool false]) W := by kernel_rfl
  rw [e]; split
  · rfl
  · exact z
theorem ta_SuperIndex (u : TypeId) (v : Value) (W : World) : (Instr.typeAssert (.iface u v) 54 77 true).run Tryd.prog W = .ok (if u = 77 then .tuple #[v, .bool true] else .tuple #[.pointer none, .bool false]) W := by
  have e : (Instr.typeAssert (.iface u v) 54 77 true).run Tryd.prog W = (if u = 77 then (pure (Value.tuple #[v, .bool true]) : Sem Value) else (do pure (Value.tuple #[← zeroValue 77, .bool false]))).run Tryd.prog W := by kernel_rfl
  have z : (do pure (Value.tuple #[← zeroValue 77, .bool false]) : Sem Value).run Tryd.prog W = .ok (.tuple #[.pointer none, .bool false]) W := by kernel_rfl
  rw [e]; split
  · rfl
  · exact z
theorem ta_Unary (u : TypeId) (v : Value) (W : World) : (Instr.typeAssert (.iface u v) 54 79 true).run Tryd.prog W = .ok (if u = 79 then .tuple #[v, .bool true] else .tuple #[.pointer none, .bool false]) W := by
  have e : (Instr.typeAssert (.iface u v) 54 79 true).run Tryd.prog W = (if u = 79 then (pure (Value.tuple #[v, .bool true]) : Sem Value) else (do pure (Value.tuple #[← zeroValue 79, .bool false]))).run Tryd.prog W := by kernel_rfl
  have z : (do pure (Value.tuple #[← zeroValue 79, .bool false]) : Sem Value).run Tryd.prog W = .ok (.tuple #[.pointer none, .bool false]) W := by kernel_rfl
  rw [e]; split
  · rfl
  · exact z
end Go.Proofs.YthppionkcfkafaaDoor
