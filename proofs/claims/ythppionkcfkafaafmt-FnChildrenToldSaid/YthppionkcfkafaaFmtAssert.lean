/-
  What a type assertion of a node gives. No condition.
-/
import Derived.Test.YthppionkcfkafaaFmtAst
namespace Go.Proofs.YthppionkcfkafaaFmt
open Go.ChangeShapes Go.WideShapes Go.ChangeAt Go.RowKit Go.Joins

theorem ta_Apply (u : TypeId) (v : Value) (W : World) : (Instr.typeAssert (.iface u v) 40 81 true).run Tryf.prog W = .ok (if u = 81 then .tuple #[v, .bool true] else .tuple #[.pointer none, .bool false]) W := by
  have e : (Instr.typeAssert (.iface u v) 40 81 true).run Tryf.prog W = (if u = 81 then (pure (Value.tuple #[v, .bool true]) : Sem Value) else (do pure (Value.tuple #[← zeroValue 81, .bool false]))).run Tryf.prog W := by kernel_rfl
  have z : (do pure (Value.tuple #[← zeroValue 81, .bool false]) : Sem Value).run Tryf.prog W = .ok (.tuple #[.pointer none, .bool false]) W := by kernel_rfl
  rw [e]; split
  · rfl
  · exact z
theorem ta_ApplyBrace (u : TypeId) (v : Value) (W : World) : (Instr.typeAssert (.iface u v) 40 83 true).run Tryf.prog W = .ok (if u = 83 then .tuple #[v, .bool true] else .tuple #[.pointer none, .bool false]) W := by
  have e : (Instr.typeAssert (.iface u v) 40 83 true).run Tryf.prog W = (if u = 83 then (pure (Value.tuple #[v, .bool true]) : Sem Value) else (do pure (Value.tuple #[← zeroValue 83, .bool false]))).run Tryf.prog W := by kernel_rfl
  have z : (do pure (Value.tuple #[← zeroValue 83, .bool false]) : Sem Value).run Tryf.prog W = .ok (.tuple #[.pointer none, .bool false]) W := by kernel_rfl
  rw [e]; split
  · rfl
  · exact z
theorem ta_Array (u : TypeId) (v : Value) (W : World) : (Instr.typeAssert (.iface u v) 40 94 true).run Tryf.prog W = .ok (if u = 94 then .tuple #[v, .bool true] else .tuple #[.pointer none, .bool false]) W := by
  have e : (Instr.typeAssert (.iface u v) 40 94 true).run Tryf.prog W = (if u = 94 then (pure (Value.tuple #[v, .bool true]) : Sem Value) else (do pure (Value.tuple #[← zeroValue 94, .bool false]))).run Tryf.prog W := by kernel_rfl
  have z : (do pure (Value.tuple #[← zeroValue 94, .bool false]) : Sem Value).run Tryf.prog W = .ok (.tuple #[.pointer none, .bool false]) W := by kernel_rfl
  rw [e]; split
  · rfl
  · exact z
theorem ta_ArrayComp (u : TypeId) (v : Value) (W : World) : (Instr.typeAssert (.iface u v) 40 100 true).run Tryf.prog W = .ok (if u = 100 then .tuple #[v, .bool true] else .tuple #[.pointer none, .bool false]) W := by
  have e : (Instr.typeAssert (.iface u v) 40 100 true).run Tryf.prog W = (if u = 100 then (pure (Value.tuple #[v, .bool true]) : Sem Value) else (do pure (Value.tuple #[← zeroValue 100, .bool false]))).run Tryf.prog W := by kernel_rfl
  have z : (do pure (Value.tuple #[← zeroValue 100, .bool false]) : Sem Value).run Tryf.prog W = .ok (.tuple #[.pointer none, .bool false]) W := by kernel_rfl
  rw [e]; split
  · rfl
  · exact z
theorem ta_Assert (u : TypeId) (v : Value) (W : World) : (Instr.typeAssert (.iface u v) 40 117 true).run Tryf.prog W = .ok (if u = 117 then .tuple #[v, .bool true] else .tuple #[.pointer none, .bool false]) W := by
  have e : (Instr.typeAssert (.iface u v) 40 117 true).run Tryf.prog W = (if u = 117 then (pure (Value.tuple #[v, .bool true]) : Sem Value) else (do pure (Value.tuple #[← zeroValue 117, .bool false]))).run Tryf.prog W := by kernel_rfl
  have z : (do pure (Value.tuple #[← zeroValue 117, .bool false]) : Sem Value).run Tryf.prog W = .ok (.tuple #[.pointer none, .bool false]) W := by kernel_rfl
  rw [e]; split
  · rfl
  · exact z
theorem ta_Binary (u : TypeId) (v : Value) (W : World) : (Instr.typeAssert (.iface u v) 40 70 true).run Tryf.prog W = .ok (if u = 70 then .tuple #[v, .bool true] else .tuple #[.pointer none, .bool false]) W := by
  have e : (Instr.typeAssert (.iface u v) 40 70 true).run Tryf.prog W = (if u = 70 then (pure (Value.tuple #[v, .bool true]) : Sem Value) else (do pure (Value.tuple #[← zeroValue 70, .bool false]))).run Tryf.prog W := by kernel_rfl
  have z : (do pure (Value.tuple #[← zeroValue 70, .bool false]) : Sem Value).run Tryf.prog W = .ok (.tuple #[.pointer none, .bool false]) W := by kernel_rfl
  rw [e]; split
  · rfl
  · exact z
theorem ta_Conditional (u : TypeId) (v : Value) (W : World) : (Instr.typeAssert (.iface u v) 40 74 true).run Tryf.prog W = .ok (if u = 74 then .tuple #[v, .bool true] else .tuple #[.pointer none, .bool false]) W := by
  have e : (Instr.typeAssert (.iface u v) 40 74 true).run Tryf.prog W = (if u = 74 then (pure (Value.tuple #[v, .bool true]) : Sem Value) else (do pure (Value.tuple #[← zeroValue 74, .bool false]))).run Tryf.prog W := by kernel_rfl
  have z : (do pure (Value.tuple #[← zeroValue 74, .bool false]) : Sem Value).run Tryf.prog W = .ok (.tuple #[.pointer none, .bool false]) W := by kernel_rfl
  rw [e]; split
  · rfl
  · exact z
theorem ta_DesugaredObject (u : TypeId) (v : Value) (W : World) : (Instr.typeAssert (.iface u v) 40 193 true).run Tryf.prog W = .ok (if u = 193 then .tuple #[v, .bool true] else .tuple #[.pointer none, .bool false]) W := by
  have e : (Instr.typeAssert (.iface u v) 40 193 true).run Tryf.prog W = (if u = 193 then (pure (Value.tuple #[v, .bool true]) : Sem Value) else (do pure (Value.tuple #[← zeroValue 193, .bool false]))).run Tryf.prog W := by kernel_rfl
  have z : (do pure (Value.tuple #[← zeroValue 193, .bool false]) : Sem Value).run Tryf.prog W = .ok (.tuple #[.pointer none, .bool false]) W := by kernel_rfl
  rw [e]; split
  · rfl
  · exact z
theorem ta_Dollar (u : TypeId) (v : Value) (W : World) : (Instr.typeAssert (.iface u v) 40 154 true).run Tryf.prog W = .ok (if u = 154 then .tuple #[v, .bool true] else .tuple #[.pointer none, .bool false]) W := by
  have e : (Instr.typeAssert (.iface u v) 40 154 true).run Tryf.prog W = (if u = 154 then (pure (Value.tuple #[v, .bool true]) : Sem Value) else (do pure (Value.tuple #[← zeroValue 154, .bool false]))).run Tryf.prog W := by kernel_rfl
  have z : (do pure (Value.tuple #[← zeroValue 154, .bool false]) : Sem Value).run Tryf.prog W = .ok (.tuple #[.pointer none, .bool false]) W := by kernel_rfl
  rw [e]; split
  · rfl
  · exact z
theorem ta_Error (u : TypeId) (v : Value) (W : World) : (Instr.typeAssert (.iface u v) 40 120 true).run Tryf.prog W = .ok (if u = 120 then .tuple #[v, .bool true] else .tuple #[.pointer none, .bool false]) W := by
  have e : (Instr.typeAssert (.iface u v) 40 120 true).run Tryf.prog W = (if u = 120 then (pure (Value.tuple #[v, .bool true]) : Sem Value) else (do pure (Value.tuple #[← zeroValue 120, .bool false]))).run Tryf.prog W := by kernel_rfl
  have z : (do pure (Value.tuple #[← zeroValue 120, .bool false]) : Sem Value).run Tryf.prog W = .ok (.tuple #[.pointer none, .bool false]) W := by kernel_rfl
  rw [e]; split
  · rfl
  · exact z
theorem ta_Function (u : TypeId) (v : Value) (W : World) : (Instr.typeAssert (.iface u v) 40 79 true).run Tryf.prog W = .ok (if u = 79 then .tuple #[v, .bool true] else .tuple #[.pointer none, .bool false]) W := by
  have e : (Instr.typeAssert (.iface u v) 40 79 true).run Tryf.prog W = (if u = 79 then (pure (Value.tuple #[v, .bool true]) : Sem Value) else (do pure (Value.tuple #[← zeroValue 79, .bool false]))).run Tryf.prog W := by kernel_rfl
  have z : (do pure (Value.tuple #[← zeroValue 79, .bool false]) : Sem Value).run Tryf.prog W = .ok (.tuple #[.pointer none, .bool false]) W := by kernel_rfl
  rw [e]; split
  · rfl
  · exact z
theorem ta_Import (u : TypeId) (v : Value) (W : World) : (Instr.typeAssert (.iface u v) 40 158 true).run Tryf.prog W = .ok (if u = 158 then .tuple #[v, .bool true] else .tuple #[.pointer none, .bool false]) W := by
  have e : (Instr.typeAssert (.iface u v) 40 158 true).run Tryf.prog W = (if u = 158 then (pure (Value.tuple #[v, .bool true]) : Sem Value) else (do pure (Value.tuple #[← zeroValue 158, .bool false]))).run Tryf.prog W := by kernel_rfl
  have z : (do pure (Value.tuple #[← zeroValue 158, .bool false]) : Sem Value).run Tryf.prog W = .ok (.tuple #[.pointer none, .bool false]) W := by kernel_rfl
  rw [e]; split
  · rfl
  · exact z
theorem ta_ImportBin (u : TypeId) (v : Value) (W : World) : (Instr.typeAssert (.iface u v) 40 163 true).run Tryf.prog W = .ok (if u = 163 then .tuple #[v, .bool true] else .tuple #[.pointer none, .bool false]) W := by
  have e : (Instr.typeAssert (.iface u v) 40 163 true).run Tryf.prog W = (if u = 163 then (pure (Value.tuple #[v, .bool true]) : Sem Value) else (do pure (Value.tuple #[← zeroValue 163, .bool false]))).run Tryf.prog W := by kernel_rfl
  have z : (do pure (Value.tuple #[← zeroValue 163, .bool false]) : Sem Value).run Tryf.prog W = .ok (.tuple #[.pointer none, .bool false]) W := by kernel_rfl
  rw [e]; split
  · rfl
  · exact z
theorem ta_ImportStr (u : TypeId) (v : Value) (W : World) : (Instr.typeAssert (.iface u v) 40 161 true).run Tryf.prog W = .ok (if u = 161 then .tuple #[v, .bool true] else .tuple #[.pointer none, .bool false]) W := by
  have e : (Instr.typeAssert (.iface u v) 40 161 true).run Tryf.prog W = (if u = 161 then (pure (Value.tuple #[v, .bool true]) : Sem Value) else (do pure (Value.tuple #[← zeroValue 161, .bool false]))).run Tryf.prog W := by kernel_rfl
  have z : (do pure (Value.tuple #[← zeroValue 161, .bool false]) : Sem Value).run Tryf.prog W = .ok (.tuple #[.pointer none, .bool false]) W := by kernel_rfl
  rw [e]; split
  · rfl
  · exact z
theorem ta_InSuper (u : TypeId) (v : Value) (W : World) : (Instr.typeAssert (.iface u v) 40 126 true).run Tryf.prog W = .ok (if u = 126 then .tuple #[v, .bool true] else .tuple #[.pointer none, .bool false]) W := by
  have e : (Instr.typeAssert (.iface u v) 40 126 true).run Tryf.prog W = (if u = 126 then (pure (Value.tuple #[v, .bool true]) : Sem Value) else (do pure (Value.tuple #[← zeroValue 126, .bool false]))).run Tryf.prog W := by kernel_rfl
  have z : (do pure (Value.tuple #[← zeroValue 126, .bool false]) : Sem Value).run Tryf.prog W = .ok (.tuple #[.pointer none, .bool false]) W := by kernel_rfl
  rw [e]; split
  · rfl
  · exact z
theorem ta_Index (u : TypeId) (v : Value) (W : World) : (Instr.typeAssert (.iface u v) 40 86 true).run Tryf.prog W = .ok (if u = 86 then .tuple #[v, .bool true] else .tuple #[.pointer none, .bool false]) W := by
  have e : (Instr.typeAssert (.iface u v) 40 86 true).run Tryf.prog W = (if u = 86 then (pure (Value.tuple #[v, .bool true]) : Sem Value) else (do pure (Value.tuple #[← zeroValue 86, .bool false]))).run Tryf.prog W := by kernel_rfl
  have z : (do pure (Value.tuple #[← zeroValue 86, .bool false]) : Sem Value).run Tryf.prog W = .ok (.tuple #[.pointer none, .bool false]) W := by kernel_rfl
  rw [e]; split
  · rfl
  · exact z
theorem ta_LiteralBoolean (u : TypeId) (v : Value) (W : World) : (Instr.typeAssert (.iface u v) 40 143 true).run Tryf.prog W = .ok (if u = 143 then .tuple #[v, .bool true] else .tuple #[.pointer none, .bool false]) W := by
  have e : (Instr.typeAssert (.iface u v) 40 143 true).run Tryf.prog W = (if u = 143 then (pure (Value.tuple #[v, .bool true]) : Sem Value) else (do pure (Value.tuple #[← zeroValue 143, .bool false]))).run Tryf.prog W := by kernel_rfl
  have z : (do pure (Value.tuple #[← zeroValue 143, .bool false]) : Sem Value).run Tryf.prog W = .ok (.tuple #[.pointer none, .bool false]) W := by kernel_rfl
  rw [e]; split
  · rfl
  · exact z
theorem ta_LiteralNull (u : TypeId) (v : Value) (W : World) : (Instr.typeAssert (.iface u v) 40 142 true).run Tryf.prog W = .ok (if u = 142 then .tuple #[v, .bool true] else .tuple #[.pointer none, .bool false]) W := by
  have e : (Instr.typeAssert (.iface u v) 40 142 true).run Tryf.prog W = (if u = 142 then (pure (Value.tuple #[v, .bool true]) : Sem Value) else (do pure (Value.tuple #[← zeroValue 142, .bool false]))).run Tryf.prog W := by kernel_rfl
  have z : (do pure (Value.tuple #[← zeroValue 142, .bool false]) : Sem Value).run Tryf.prog W = .ok (.tuple #[.pointer none, .bool false]) W := by kernel_rfl
  rw [e]; split
  · rfl
  · exact z
theorem ta_LiteralNumber (u : TypeId) (v : Value) (W : World) : (Instr.typeAssert (.iface u v) 40 146 true).run Tryf.prog W = .ok (if u = 146 then .tuple #[v, .bool true] else .tuple #[.pointer none, .bool false]) W := by
  have e : (Instr.typeAssert (.iface u v) 40 146 true).run Tryf.prog W = (if u = 146 then (pure (Value.tuple #[v, .bool true]) : Sem Value) else (do pure (Value.tuple #[← zeroValue 146, .bool false]))).run Tryf.prog W := by kernel_rfl
  have z : (do pure (Value.tuple #[← zeroValue 146, .bool false]) : Sem Value).run Tryf.prog W = .ok (.tuple #[.pointer none, .bool false]) W := by kernel_rfl
  rw [e]; split
  · rfl
  · exact z
theorem ta_LiteralString (u : TypeId) (v : Value) (W : World) : (Instr.typeAssert (.iface u v) 40 149 true).run Tryf.prog W = .ok (if u = 149 then .tuple #[v, .bool true] else .tuple #[.pointer none, .bool false]) W := by
  have e : (Instr.typeAssert (.iface u v) 40 149 true).run Tryf.prog W = (if u = 149 then (pure (Value.tuple #[v, .bool true]) : Sem Value) else (do pure (Value.tuple #[← zeroValue 149, .bool false]))).run Tryf.prog W := by kernel_rfl
  have z : (do pure (Value.tuple #[← zeroValue 149, .bool false]) : Sem Value).run Tryf.prog W = .ok (.tuple #[.pointer none, .bool false]) W := by kernel_rfl
  rw [e]; split
  · rfl
  · exact z
theorem ta_Local (u : TypeId) (v : Value) (W : World) : (Instr.typeAssert (.iface u v) 40 77 true).run Tryf.prog W = .ok (if u = 77 then .tuple #[v, .bool true] else .tuple #[.pointer none, .bool false]) W := by
  have e : (Instr.typeAssert (.iface u v) 40 77 true).run Tryf.prog W = (if u = 77 then (pure (Value.tuple #[v, .bool true]) : Sem Value) else (do pure (Value.tuple #[← zeroValue 77, .bool false]))).run Tryf.prog W := by kernel_rfl
  have z : (do pure (Value.tuple #[← zeroValue 77, .bool false]) : Sem Value).run Tryf.prog W = .ok (.tuple #[.pointer none, .bool false]) W := by kernel_rfl
  rw [e]; split
  · rfl
  · exact z
theorem ta_Object (u : TypeId) (v : Value) (W : World) : (Instr.typeAssert (.iface u v) 40 108 true).run Tryf.prog W = .ok (if u = 108 then .tuple #[v, .bool true] else .tuple #[.pointer none, .bool false]) W := by
  have e : (Instr.typeAssert (.iface u v) 40 108 true).run Tryf.prog W = (if u = 108 then (pure (Value.tuple #[v, .bool true]) : Sem Value) else (do pure (Value.tuple #[← zeroValue 108, .bool false]))).run Tryf.prog W := by kernel_rfl
  have z : (do pure (Value.tuple #[← zeroValue 108, .bool false]) : Sem Value).run Tryf.prog W = .ok (.tuple #[.pointer none, .bool false]) W := by kernel_rfl
  rw [e]; split
  · rfl
  · exact z
theorem ta_ObjectComp (u : TypeId) (v : Value) (W : World) : (Instr.typeAssert (.iface u v) 40 114 true).run Tryf.prog W = .ok (if u = 114 then .tuple #[v, .bool true] else .tuple #[.pointer none, .bool false]) W := by
  have e : (Instr.typeAssert (.iface u v) 40 114 true).run Tryf.prog W = (if u = 114 then (pure (Value.tuple #[v, .bool true]) : Sem Value) else (do pure (Value.tuple #[← zeroValue 114, .bool false]))).run Tryf.prog W := by kernel_rfl
  have z : (do pure (Value.tuple #[← zeroValue 114, .bool false]) : Sem Value).run Tryf.prog W = .ok (.tuple #[.pointer none, .bool false]) W := by kernel_rfl
  rw [e]; split
  · rfl
  · exact z
theorem ta_Parens (u : TypeId) (v : Value) (W : World) : (Instr.typeAssert (.iface u v) 40 129 true).run Tryf.prog W = .ok (if u = 129 then .tuple #[v, .bool true] else .tuple #[.pointer none, .bool false]) W := by
  have e : (Instr.typeAssert (.iface u v) 40 129 true).run Tryf.prog W = (if u = 129 then (pure (Value.tuple #[v, .bool true]) : Sem Value) else (do pure (Value.tuple #[← zeroValue 129, .bool false]))).run Tryf.prog W := by kernel_rfl
  have z : (do pure (Value.tuple #[← zeroValue 129, .bool false]) : Sem Value).run Tryf.prog W = .ok (.tuple #[.pointer none, .bool false]) W := by kernel_rfl
  rw [e]; split
  · rfl
  · exact z
theorem ta_Self (u : TypeId) (v : Value) (W : World) : (Instr.typeAssert (.iface u v) 40 153 true).run Tryf.prog W = .ok (if u = 153 then .tuple #[v, .bool true] else .tuple #[.pointer none, .bool false]) W := by
  have e : (Instr.typeAssert (.iface u v) 40 153 true).run Tryf.prog W = (if u = 153 then (pure (Value.tuple #[v, .bool true]) : Sem Value) else (do pure (Value.tuple #[← zeroValue 153, .bool false]))).run Tryf.prog W := by kernel_rfl
  have z : (do pure (Value.tuple #[← zeroValue 153, .bool false]) : Sem Value).run Tryf.prog W = .ok (.tuple #[.pointer none, .bool false]) W := by kernel_rfl
  rw [e]; split
  · rfl
  · exact z
theorem ta_Slice (u : TypeId) (v : Value) (W : World) : (Instr.typeAssert (.iface u v) 40 91 true).run Tryf.prog W = .ok (if u = 91 then .tuple #[v, .bool true] else .tuple #[.pointer none, .bool false]) W := by
  have e : (Instr.typeAssert (.iface u v) 40 91 true).run Tryf.prog W = (if u = 91 then (pure (Value.tuple #[v, .bool true]) : Sem Value) else (do pure (Value.tuple #[← zeroValue 91, .bool false]))).run Tryf.prog W := by kernel_rfl
  have z : (do pure (Value.tuple #[← zeroValue 91, .bool false]) : Sem Value).run Tryf.prog W = .ok (.tuple #[.pointer none, .bool false]) W := by kernel_rfl
  rw [e]; split
  · rfl
  · exact z
theorem ta_SuperIndex (u : TypeId) (v : Value) (W : World) : (Instr.typeAssert (.iface u v) 40 123 true).run Tryf.prog W = .ok (if u = 123 then .tuple #[v, .bool true] else .tuple #[.pointer none, .bool false]) W := by
  have e : (Instr.typeAssert (.iface u v) 40 123 true).run Tryf.prog W = (if u = 123 then (pure (Value.tuple #[v, .bool true]) : Sem Value) else (do pure (Value.tuple #[← zeroValue 123, .bool false]))).run Tryf.prog W := by kernel_rfl
  have z : (do pure (Value.tuple #[← zeroValue 123, .bool false]) : Sem Value).run Tryf.prog W = .ok (.tuple #[.pointer none, .bool false]) W := by kernel_rfl
  rw [e]; split
  · rfl
  · exact z
theorem ta_Unary (u : TypeId) (v : Value) (W : World) : (Instr.typeAssert (.iface u v) 40 52 true).run Tryf.prog W = .ok (if u = 52 then .tuple #[v, .bool true] else .tuple #[.pointer none, .bool false]) W := by
  have e : (Instr.typeAssert (.iface u v) 40 52 true).run Tryf.prog W = (if u = 52 then (pure (Value.tuple #[v, .bool true]) : Sem Value) else (do pure (Value.tuple #[← zeroValue 52, .bool false]))).run Tryf.prog W := by kernel_rfl
  have z : (do pure (Value.tuple #[← zeroValue 52, .bool false]) : Sem Value).run Tryf.prog W = .ok (.tuple #[.pointer none, .bool false]) W := by kernel_rfl
  rw [e]; split
  · rfl
  · exact z
theorem ta_Var (u : TypeId) (v : Value) (W : World) : (Instr.typeAssert (.iface u v) 40 155 true).run Tryf.prog W = .ok (if u = 155 then .tuple #[v, .bool true] else .tuple #[.pointer none, .bool false]) W := by
  have e : (Instr.typeAssert (.iface u v) 40 155 true).run Tryf.prog W = (if u = 155 then (pure (Value.tuple #[v, .bool true]) : Sem Value) else (do pure (Value.tuple #[← zeroValue 155, .bool false]))).run Tryf.prog W := by kernel_rfl
  have z : (do pure (Value.tuple #[← zeroValue 155, .bool false]) : Sem Value).run Tryf.prog W = .ok (.tuple #[.pointer none, .bool false]) W := by kernel_rfl
  rw [e]; split
  · rfl
  · exact z
end Go.Proofs.YthppionkcfkafaaFmt
