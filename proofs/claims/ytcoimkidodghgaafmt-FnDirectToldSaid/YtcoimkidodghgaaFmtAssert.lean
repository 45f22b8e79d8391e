/-
  What a type assertion of a node gives. No condition.
-/
import Derived.Test.YtcoimkidodghgaaFmtAst
namespace Go.Proofs.YtcoimkidodghgaaFmt
open Go.ChangeShapes Go.WideShapes Go.ChangeAt Go.RowKit Go.Joins

theorem ta_Apply (u : TypeId) (v : Value) (W : World) : (Instr.typeAssert (.iface u v) 46 88 true).run Tryf.prog W = .ok (if u = 88 then .tuple #[v, .bool true] else .tuple #[.pointer none, .bool false]) W := by
  have e : (Instr.typeAssert (.iface u v) 46 88 true).run Tryf.prog W = (if u = 88 then (pure (Value.tuple #[v, .bool true]) : Sem Value) else (do pure (Value.tuple #[← zeroValue 88, .bool false]))).run Tryf.prog W := by kernel_rfl
  have z : (do pure (Value.tuple #[← zeroValue 88, .bool false]) : Sem Value).run Tryf.prog W = .ok (.tuple #[.pointer none, .bool false]) W := by kernel_rfl
  rw [e]; split
  · rfl
  · exact z
theorem ta_ApplyBrace (u : TypeId) (v : Value) (W : World) : (Instr.typeAssert (.iface u v) 46 97 true).run Tryf.prog W = .ok (if u = 97 then .tuple #[v, .bool true] else .tuple #[.pointer none, .bool false]) W := by
  have e : (Instr.typeAssert (.iface u v) 46 97 true).run Tryf.prog W = (if u = 97 then (pure (Value.tuple #[v, .bool true]) : Sem Value) else (do pure (Value.tuple #[← zeroValue 97, .bool false]))).run Tryf.prog W := by kernel_rfl
  have z : (do pure (Value.tuple #[← zeroValue 97, .bool false]) : Sem Value).run Tryf.prog W = .ok (.tuple #[.pointer none, .bool false]) W := by kernel_rfl
  rw [e]; split
  · rfl
  · exact z
theorem ta_Array (u : TypeId) (v : Value) (W : World) : (Instr.typeAssert (.iface u v) 46 105 true).run Tryf.prog W = .ok (if u = 105 then .tuple #[v, .bool true] else .tuple #[.pointer none, .bool false]) W := by
  have e : (Instr.typeAssert (.iface u v) 46 105 true).run Tryf.prog W = (if u = 105 then (pure (Value.tuple #[v, .bool true]) : Sem Value) else (do pure (Value.tuple #[← zeroValue 105, .bool false]))).run Tryf.prog W := by kernel_rfl
  have z : (do pure (Value.tuple #[← zeroValue 105, .bool false]) : Sem Value).run Tryf.prog W = .ok (.tuple #[.pointer none, .bool false]) W := by kernel_rfl
  rw [e]; split
  · rfl
  · exact z
theorem ta_ArrayComp (u : TypeId) (v : Value) (W : World) : (Instr.typeAssert (.iface u v) 46 132 true).run Tryf.prog W = .ok (if u = 132 then .tuple #[v, .bool true] else .tuple #[.pointer none, .bool false]) W := by
  have e : (Instr.typeAssert (.iface u v) 46 132 true).run Tryf.prog W = (if u = 132 then (pure (Value.tuple #[v, .bool true]) : Sem Value) else (do pure (Value.tuple #[← zeroValue 132, .bool false]))).run Tryf.prog W := by kernel_rfl
  have z : (do pure (Value.tuple #[← zeroValue 132, .bool false]) : Sem Value).run Tryf.prog W = .ok (.tuple #[.pointer none, .bool false]) W := by kernel_rfl
  rw [e]; split
  · rfl
  · exact z
theorem ta_Assert (u : TypeId) (v : Value) (W : World) : (Instr.typeAssert (.iface u v) 46 149 true).run Tryf.prog W = .ok (if u = 149 then .tuple #[v, .bool true] else .tuple #[.pointer none, .bool false]) W := by
  have e : (Instr.typeAssert (.iface u v) 46 149 true).run Tryf.prog W = (if u = 149 then (pure (Value.tuple #[v, .bool true]) : Sem Value) else (do pure (Value.tuple #[← zeroValue 149, .bool false]))).run Tryf.prog W := by kernel_rfl
  have z : (do pure (Value.tuple #[← zeroValue 149, .bool false]) : Sem Value).run Tryf.prog W = .ok (.tuple #[.pointer none, .bool false]) W := by kernel_rfl
  rw [e]; split
  · rfl
  · exact z
theorem ta_Binary (u : TypeId) (v : Value) (W : World) : (Instr.typeAssert (.iface u v) 46 81 true).run Tryf.prog W = .ok (if u = 81 then .tuple #[v, .bool true] else .tuple #[.pointer none, .bool false]) W := by
  have e : (Instr.typeAssert (.iface u v) 46 81 true).run Tryf.prog W = (if u = 81 then (pure (Value.tuple #[v, .bool true]) : Sem Value) else (do pure (Value.tuple #[← zeroValue 81, .bool false]))).run Tryf.prog W := by kernel_rfl
  have z : (do pure (Value.tuple #[← zeroValue 81, .bool false]) : Sem Value).run Tryf.prog W = .ok (.tuple #[.pointer none, .bool false]) W := by kernel_rfl
  rw [e]; split
  · rfl
  · exact z
theorem ta_Conditional (u : TypeId) (v : Value) (W : World) : (Instr.typeAssert (.iface u v) 46 85 true).run Tryf.prog W = .ok (if u = 85 then .tuple #[v, .bool true] else .tuple #[.pointer none, .bool false]) W := by
  have e : (Instr.typeAssert (.iface u v) 46 85 true).run Tryf.prog W = (if u = 85 then (pure (Value.tuple #[v, .bool true]) : Sem Value) else (do pure (Value.tuple #[← zeroValue 85, .bool false]))).run Tryf.prog W := by kernel_rfl
  have z : (do pure (Value.tuple #[← zeroValue 85, .bool false]) : Sem Value).run Tryf.prog W = .ok (.tuple #[.pointer none, .bool false]) W := by kernel_rfl
  rw [e]; split
  · rfl
  · exact z
theorem ta_DesugaredObject (u : TypeId) (v : Value) (W : World) : (Instr.typeAssert (.iface u v) 46 168 true).run Tryf.prog W = .ok (if u = 168 then .tuple #[v, .bool true] else .tuple #[.pointer none, .bool false]) W := by
  have e : (Instr.typeAssert (.iface u v) 46 168 true).run Tryf.prog W = (if u = 168 then (pure (Value.tuple #[v, .bool true]) : Sem Value) else (do pure (Value.tuple #[← zeroValue 168, .bool false]))).run Tryf.prog W := by kernel_rfl
  have z : (do pure (Value.tuple #[← zeroValue 168, .bool false]) : Sem Value).run Tryf.prog W = .ok (.tuple #[.pointer none, .bool false]) W := by kernel_rfl
  rw [e]; split
  · rfl
  · exact z
theorem ta_Dollar (u : TypeId) (v : Value) (W : World) : (Instr.typeAssert (.iface u v) 46 158 true).run Tryf.prog W = .ok (if u = 158 then .tuple #[v, .bool true] else .tuple #[.pointer none, .bool false]) W := by
  have e : (Instr.typeAssert (.iface u v) 46 158 true).run Tryf.prog W = (if u = 158 then (pure (Value.tuple #[v, .bool true]) : Sem Value) else (do pure (Value.tuple #[← zeroValue 158, .bool false]))).run Tryf.prog W := by kernel_rfl
  have z : (do pure (Value.tuple #[← zeroValue 158, .bool false]) : Sem Value).run Tryf.prog W = .ok (.tuple #[.pointer none, .bool false]) W := by kernel_rfl
  rw [e]; split
  · rfl
  · exact z
theorem ta_Error (u : TypeId) (v : Value) (W : World) : (Instr.typeAssert (.iface u v) 46 108 true).run Tryf.prog W = .ok (if u = 108 then .tuple #[v, .bool true] else .tuple #[.pointer none, .bool false]) W := by
  have e : (Instr.typeAssert (.iface u v) 46 108 true).run Tryf.prog W = (if u = 108 then (pure (Value.tuple #[v, .bool true]) : Sem Value) else (do pure (Value.tuple #[← zeroValue 108, .bool false]))).run Tryf.prog W := by kernel_rfl
  have z : (do pure (Value.tuple #[← zeroValue 108, .bool false]) : Sem Value).run Tryf.prog W = .ok (.tuple #[.pointer none, .bool false]) W := by kernel_rfl
  rw [e]; split
  · rfl
  · exact z
theorem ta_Function (u : TypeId) (v : Value) (W : World) : (Instr.typeAssert (.iface u v) 46 126 true).run Tryf.prog W = .ok (if u = 126 then .tuple #[v, .bool true] else .tuple #[.pointer none, .bool false]) W := by
  have e : (Instr.typeAssert (.iface u v) 46 126 true).run Tryf.prog W = (if u = 126 then (pure (Value.tuple #[v, .bool true]) : Sem Value) else (do pure (Value.tuple #[← zeroValue 126, .bool false]))).run Tryf.prog W := by kernel_rfl
  have z : (do pure (Value.tuple #[← zeroValue 126, .bool false]) : Sem Value).run Tryf.prog W = .ok (.tuple #[.pointer none, .bool false]) W := by kernel_rfl
  rw [e]; split
  · rfl
  · exact z
theorem ta_Import (u : TypeId) (v : Value) (W : World) : (Instr.typeAssert (.iface u v) 46 159 true).run Tryf.prog W = .ok (if u = 159 then .tuple #[v, .bool true] else .tuple #[.pointer none, .bool false]) W := by
  have e : (Instr.typeAssert (.iface u v) 46 159 true).run Tryf.prog W = (if u = 159 then (pure (Value.tuple #[v, .bool true]) : Sem Value) else (do pure (Value.tuple #[← zeroValue 159, .bool false]))).run Tryf.prog W := by kernel_rfl
  have z : (do pure (Value.tuple #[← zeroValue 159, .bool false]) : Sem Value).run Tryf.prog W = .ok (.tuple #[.pointer none, .bool false]) W := by kernel_rfl
  rw [e]; split
  · rfl
  · exact z
theorem ta_ImportBin (u : TypeId) (v : Value) (W : World) : (Instr.typeAssert (.iface u v) 46 161 true).run Tryf.prog W = .ok (if u = 161 then .tuple #[v, .bool true] else .tuple #[.pointer none, .bool false]) W := by
  have e : (Instr.typeAssert (.iface u v) 46 161 true).run Tryf.prog W = (if u = 161 then (pure (Value.tuple #[v, .bool true]) : Sem Value) else (do pure (Value.tuple #[← zeroValue 161, .bool false]))).run Tryf.prog W := by kernel_rfl
  have z : (do pure (Value.tuple #[← zeroValue 161, .bool false]) : Sem Value).run Tryf.prog W = .ok (.tuple #[.pointer none, .bool false]) W := by kernel_rfl
  rw [e]; split
  · rfl
  · exact z
theorem ta_ImportStr (u : TypeId) (v : Value) (W : World) : (Instr.typeAssert (.iface u v) 46 160 true).run Tryf.prog W = .ok (if u = 160 then .tuple #[v, .bool true] else .tuple #[.pointer none, .bool false]) W := by
  have e : (Instr.typeAssert (.iface u v) 46 160 true).run Tryf.prog W = (if u = 160 then (pure (Value.tuple #[v, .bool true]) : Sem Value) else (do pure (Value.tuple #[← zeroValue 160, .bool false]))).run Tryf.prog W := by kernel_rfl
  have z : (do pure (Value.tuple #[← zeroValue 160, .bool false]) : Sem Value).run Tryf.prog W = .ok (.tuple #[.pointer none, .bool false]) W := by kernel_rfl
  rw [e]; split
  · rfl
  · exact z
theorem ta_InSuper (u : TypeId) (v : Value) (W : World) : (Instr.typeAssert (.iface u v) 46 155 true).run Tryf.prog W = .ok (if u = 155 then .tuple #[v, .bool true] else .tuple #[.pointer none, .bool false]) W := by
  have e : (Instr.typeAssert (.iface u v) 46 155 true).run Tryf.prog W = (if u = 155 then (pure (Value.tuple #[v, .bool true]) : Sem Value) else (do pure (Value.tuple #[← zeroValue 155, .bool false]))).run Tryf.prog W := by kernel_rfl
  have z : (do pure (Value.tuple #[← zeroValue 155, .bool false]) : Sem Value).run Tryf.prog W = .ok (.tuple #[.pointer none, .bool false]) W := by kernel_rfl
  rw [e]; split
  · rfl
  · exact z
theorem ta_Index (u : TypeId) (v : Value) (W : World) : (Instr.typeAssert (.iface u v) 46 100 true).run Tryf.prog W = .ok (if u = 100 then .tuple #[v, .bool true] else .tuple #[.pointer none, .bool false]) W := by
  have e : (Instr.typeAssert (.iface u v) 46 100 true).run Tryf.prog W = (if u = 100 then (pure (Value.tuple #[v, .bool true]) : Sem Value) else (do pure (Value.tuple #[← zeroValue 100, .bool false]))).run Tryf.prog W := by kernel_rfl
  have z : (do pure (Value.tuple #[← zeroValue 100, .bool false]) : Sem Value).run Tryf.prog W = .ok (.tuple #[.pointer none, .bool false]) W := by kernel_rfl
  rw [e]; split
  · rfl
  · exact z
theorem ta_LiteralBoolean (u : TypeId) (v : Value) (W : World) : (Instr.typeAssert (.iface u v) 46 162 true).run Tryf.prog W = .ok (if u = 162 then .tuple #[v, .bool true] else .tuple #[.pointer none, .bool false]) W := by
  have e : (Instr.typeAssert (.iface u v) 46 162 true).run Tryf.prog W = (if u = 162 then (pure (Value.tuple #[v, .bool true]) : Sem Value) else (do pure (Value.tuple #[← zeroValue 162, .bool false]))).run Tryf.prog W := by kernel_rfl
  have z : (do pure (Value.tuple #[← zeroValue 162, .bool false]) : Sem Value).run Tryf.prog W = .ok (.tuple #[.pointer none, .bool false]) W := by kernel_rfl
  rw [e]; split
  · rfl
  · exact z
theorem ta_LiteralNull (u : TypeId) (v : Value) (W : World) : (Instr.typeAssert (.iface u v) 46 163 true).run Tryf.prog W = .ok (if u = 163 then .tuple #[v, .bool true] else .tuple #[.pointer none, .bool false]) W := by
  have e : (Instr.typeAssert (.iface u v) 46 163 true).run Tryf.prog W = (if u = 163 then (pure (Value.tuple #[v, .bool true]) : Sem Value) else (do pure (Value.tuple #[← zeroValue 163, .bool false]))).run Tryf.prog W := by kernel_rfl
  have z : (do pure (Value.tuple #[← zeroValue 163, .bool false]) : Sem Value).run Tryf.prog W = .ok (.tuple #[.pointer none, .bool false]) W := by kernel_rfl
  rw [e]; split
  · rfl
  · exact z
theorem ta_LiteralNumber (u : TypeId) (v : Value) (W : World) : (Instr.typeAssert (.iface u v) 46 164 true).run Tryf.prog W = .ok (if u = 164 then .tuple #[v, .bool true] else .tuple #[.pointer none, .bool false]) W := by
  have e : (Instr.typeAssert (.iface u v) 46 164 true).run Tryf.prog W = (if u = 164 then (pure (Value.tuple #[v, .bool true]) : Sem Value) else (do pure (Value.tuple #[← zeroValue 164, .bool false]))).run Tryf.prog W := by kernel_rfl
  have z : (do pure (Value.tuple #[← zeroValue 164, .bool false]) : Sem Value).run Tryf.prog W = .ok (.tuple #[.pointer none, .bool false]) W := by kernel_rfl
  rw [e]; split
  · rfl
  · exact z
theorem ta_LiteralString (u : TypeId) (v : Value) (W : World) : (Instr.typeAssert (.iface u v) 46 165 true).run Tryf.prog W = .ok (if u = 165 then .tuple #[v, .bool true] else .tuple #[.pointer none, .bool false]) W := by
  have e : (Instr.typeAssert (.iface u v) 46 165 true).run Tryf.prog W = (if u = 165 then (pure (Value.tuple #[v, .bool true]) : Sem Value) else (do pure (Value.tuple #[← zeroValue 165, .bool false]))).run Tryf.prog W := by kernel_rfl
  have z : (do pure (Value.tuple #[← zeroValue 165, .bool false]) : Sem Value).run Tryf.prog W = .ok (.tuple #[.pointer none, .bool false]) W := by kernel_rfl
  rw [e]; split
  · rfl
  · exact z
theorem ta_Local (u : TypeId) (v : Value) (W : World) : (Instr.typeAssert (.iface u v) 46 124 true).run Tryf.prog W = .ok (if u = 124 then .tuple #[v, .bool true] else .tuple #[.pointer none, .bool false]) W := by
  have e : (Instr.typeAssert (.iface u v) 46 124 true).run Tryf.prog W = (if u = 124 then (pure (Value.tuple #[v, .bool true]) : Sem Value) else (do pure (Value.tuple #[← zeroValue 124, .bool false]))).run Tryf.prog W := by kernel_rfl
  have z : (do pure (Value.tuple #[← zeroValue 124, .bool false]) : Sem Value).run Tryf.prog W = .ok (.tuple #[.pointer none, .bool false]) W := by kernel_rfl
  rw [e]; split
  · rfl
  · exact z
theorem ta_Object (u : TypeId) (v : Value) (W : World) : (Instr.typeAssert (.iface u v) 46 140 true).run Tryf.prog W = .ok (if u = 140 then .tuple #[v, .bool true] else .tuple #[.pointer none, .bool false]) W := by
  have e : (Instr.typeAssert (.iface u v) 46 140 true).run Tryf.prog W = (if u = 140 then (pure (Value.tuple #[v, .bool true]) : Sem Value) else (do pure (Value.tuple #[← zeroValue 140, .bool false]))).run Tryf.prog W := by kernel_rfl
  have z : (do pure (Value.tuple #[← zeroValue 140, .bool false]) : Sem Value).run Tryf.prog W = .ok (.tuple #[.pointer none, .bool false]) W := by kernel_rfl
  rw [e]; split
  · rfl
  · exact z
theorem ta_ObjectComp (u : TypeId) (v : Value) (W : World) : (Instr.typeAssert (.iface u v) 46 146 true).run Tryf.prog W = .ok (if u = 146 then .tuple #[v, .bool true] else .tuple #[.pointer none, .bool false]) W := by
  have e : (Instr.typeAssert (.iface u v) 46 146 true).run Tryf.prog W = (if u = 146 then (pure (Value.tuple #[v, .bool true]) : Sem Value) else (do pure (Value.tuple #[← zeroValue 146, .bool false]))).run Tryf.prog W := by kernel_rfl
  have z : (do pure (Value.tuple #[← zeroValue 146, .bool false]) : Sem Value).run Tryf.prog W = .ok (.tuple #[.pointer none, .bool false]) W := by kernel_rfl
  rw [e]; split
  · rfl
  · exact z
theorem ta_Parens (u : TypeId) (v : Value) (W : World) : (Instr.typeAssert (.iface u v) 46 111 true).run Tryf.prog W = .ok (if u = 111 then .tuple #[v, .bool true] else .tuple #[.pointer none, .bool false]) W := by
  have e : (Instr.typeAssert (.iface u v) 46 111 true).run Tryf.prog W = (if u = 111 then (pure (Value.tuple #[v, .bool true]) : Sem Value) else (do pure (Value.tuple #[← zeroValue 111, .bool false]))).run Tryf.prog W := by kernel_rfl
  have z : (do pure (Value.tuple #[← zeroValue 111, .bool false]) : Sem Value).run Tryf.prog W = .ok (.tuple #[.pointer none, .bool false]) W := by kernel_rfl
  rw [e]; split
  · rfl
  · exact z
theorem ta_Self (u : TypeId) (v : Value) (W : World) : (Instr.typeAssert (.iface u v) 46 172 true).run Tryf.prog W = .ok (if u = 172 then .tuple #[v, .bool true] else .tuple #[.pointer none, .bool false]) W := by
  have e : (Instr.typeAssert (.iface u v) 46 172 true).run Tryf.prog W = (if u = 172 then (pure (Value.tuple #[v, .bool true]) : Sem Value) else (do pure (Value.tuple #[← zeroValue 172, .bool false]))).run Tryf.prog W := by kernel_rfl
  have z : (do pure (Value.tuple #[← zeroValue 172, .bool false]) : Sem Value).run Tryf.prog W = .ok (.tuple #[.pointer none, .bool false]) W := by kernel_rfl
  rw [e]; split
  · rfl
  · exact z
theorem ta_Slice (u : TypeId) (v : Value) (W : World) : (Instr.typeAssert (.iface u v) 46 129 true).run Tryf.prog W = .ok (if u = 129 then .tuple #[v, .bool true] else .tuple #[.pointer none, .bool false]) W := by
  have e : (Instr.typeAssert (.iface u v) 46 129 true).run Tryf.prog W = (if u = 129 then (pure (Value.tuple #[v, .bool true]) : Sem Value) else (do pure (Value.tuple #[← zeroValue 129, .bool false]))).run Tryf.prog W := by kernel_rfl
  have z : (do pure (Value.tuple #[← zeroValue 129, .bool false]) : Sem Value).run Tryf.prog W = .ok (.tuple #[.pointer none, .bool false]) W := by kernel_rfl
  rw [e]; split
  · rfl
  · exact z
theorem ta_SuperIndex (u : TypeId) (v : Value) (W : World) : (Instr.typeAssert (.iface u v) 46 152 true).run Tryf.prog W = .ok (if u = 152 then .tuple #[v, .bool true] else .tuple #[.pointer none, .bool false]) W := by
  have e : (Instr.typeAssert (.iface u v) 46 152 true).run Tryf.prog W = (if u = 152 then (pure (Value.tuple #[v, .bool true]) : Sem Value) else (do pure (Value.tuple #[← zeroValue 152, .bool false]))).run Tryf.prog W := by kernel_rfl
  have z : (do pure (Value.tuple #[← zeroValue 152, .bool false]) : Sem Value).run Tryf.prog W = .ok (.tuple #[.pointer none, .bool false]) W := by kernel_rfl
  rw [e]; split
  · rfl
  · exact z
theorem ta_Unary (u : TypeId) (v : Value) (W : World) : (Instr.typeAssert (.iface u v) 46 65 true).run Tryf.prog W = .ok (if u = 65 then .tuple #[v, .bool true] else .tuple #[.pointer none, .bool false]) W := by
  have e : (Instr.typeAssert (.iface u v) 46 65 true).run Tryf.prog W = (if u = 65 then (pure (Value.tuple #[v, .bool true]) : Sem Value) else (do pure (Value.tuple #[← zeroValue 65, .bool false]))).run Tryf.prog W := by kernel_rfl
  have z : (do pure (Value.tuple #[← zeroValue 65, .bool false]) : Sem Value).run Tryf.prog W = .ok (.tuple #[.pointer none, .bool false]) W := by kernel_rfl
  rw [e]; split
  · rfl
  · exact z
theorem ta_Var (u : TypeId) (v : Value) (W : World) : (Instr.typeAssert (.iface u v) 46 173 true).run Tryf.prog W = .ok (if u = 173 then .tuple #[v, .bool true] else .tuple #[.pointer none, .bool false]) W := by
  have e : (Instr.typeAssert (.iface u v) 46 173 true).run Tryf.prog W = (if u = 173 then (pure (Value.tuple #[v, .bool true]) : Sem Value) else (do pure (Value.tuple #[← zeroValue 173, .bool false]))).run Tryf.prog W := by kernel_rfl
  have z : (do pure (Value.tuple #[← zeroValue 173, .bool false]) : Sem Value).run Tryf.prog W = .ok (.tuple #[.pointer none, .bool false]) W := by kernel_rfl
  rw [e]; split
  · rfl
  · exact z
end Go.Proofs.YtcoimkidodghgaaFmt
