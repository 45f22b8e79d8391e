/-
  What a type assertion of a node gives. No condition.
-/
import Derived.Test.YtceepfnjdkfjnaaFmtAst
namespace Go.Proofs.YtceepfnjdkfjnaaFmt
open Go.ChangeShapes Go.WideShapes Go.ChangeAt Go.RowKit Go.Joins

theorem ta_Apply (u : TypeId) (v : Value) (W : World) : (Instr.typeAssert (.iface u v) 75 112 true).run Tryf.prog W = .ok (if u = 112 then .tuple #[v, .bool true] else .tuple #[.pointer none, .bool false]) W := by
  have e : (Instr.typeAssert (.iface u v) 75 112 true).run Tryf.prog W = (if u = 112 then (pure (Value.tuple #[v, .bool true]) : Sem Value) else (do pure (Value.tuple #[← zeroValue 112, .bool false]))).run Tryf.prog W := by kernel_rfl
  have z : (do pure (Value.tuple #[← zeroValue 112, .bool false]) : Sem Value).run Tryf.prog W = .ok (.tuple #[.pointer none, .bool false]) W := by kernel_rfl
  rw [e]; split
  · rfl
  · exact z
theorem ta_ApplyBrace (u : TypeId) (v : Value) (W : World) : (Instr.typeAssert (.iface u v) 75 114 true).run Tryf.prog W = .ok (if u = 114 then .tuple #[v, .bool true] else .tuple #[.pointer none, .bool false]) W := by
  have e : (Instr.typeAssert (.iface u v) 75 114 true).run Tryf.prog W = (if u = 114 then (pure (Value.tuple #[v, .bool true]) : Sem Value) else (do pure (Value.tuple #[← zeroValue 114, .bool false]))).run Tryf.prog W := by kernel_rfl
  have z : (do pure (Value.tuple #[← zeroValue 114, .bool false]) : Sem Value).run Tryf.prog W = .ok (.tuple #[.pointer none, .bool false]) W := by kernel_rfl
  rw [e]; split
  · rfl
  · exact z
theorem ta_Array (u : TypeId) (v : Value) (W : World) : (Instr.typeAssert (.iface u v) 75 125 true).run Tryf.prog W = .ok (if u = 125 then .tuple #[v, .bool true] else .tuple #[.pointer none, .bool false]) W := by
  have e : (Instr.typeAssert (.iface u v) 75 125 true).run Tryf.prog W = (if u = 125 then (pure (Value.tuple #[v, .bool true]) : Sem Value) else (do pure (Value.tuple #[← zeroValue 125, .bool false]))).run Tryf.prog W := by kernel_rfl
  have z : (do pure (Value.tuple #[← zeroValue 125, .bool false]) : Sem Value).run Tryf.prog W = .ok (.tuple #[.pointer none, .bool false]) W := by kernel_rfl
  rw [e]; split
  · rfl
  · exact z
theorem ta_ArrayComp (u : TypeId) (v : Value) (W : World) : (Instr.typeAssert (.iface u v) 75 131 true).run Tryf.prog W = .ok (if u = 131 then .tuple #[v, .bool true] else .tuple #[.pointer none, .bool false]) W := by
  have e : (Instr.typeAssert (.iface u v) 75 131 true).run Tryf.prog W = (if u = 131 then (pure (Value.tuple #[v, .bool true]) : Sem Value) else (do pure (Value.tuple #[← zeroValue 131, .bool false]))).run Tryf.prog W := by kernel_rfl
  have z : (do pure (Value.tuple #[← zeroValue 131, .bool false]) : Sem Value).run Tryf.prog W = .ok (.tuple #[.pointer none, .bool false]) W := by kernel_rfl
  rw [e]; split
  · rfl
  · exact z
theorem ta_Assert (u : TypeId) (v : Value) (W : World) : (Instr.typeAssert (.iface u v) 75 148 true).run Tryf.prog W = .ok (if u = 148 then .tuple #[v, .bool true] else .tuple #[.pointer none, .bool false]) W := by
  have e : (Instr.typeAssert (.iface u v) 75 148 true).run Tryf.prog W = (if u = 148 then (pure (Value.tuple #[v, .bool true]) : Sem Value) else (do pure (Value.tuple #[← zeroValue 148, .bool false]))).run Tryf.prog W := by kernel_rfl
  have z : (do pure (Value.tuple #[← zeroValue 148, .bool false]) : Sem Value).run Tryf.prog W = .ok (.tuple #[.pointer none, .bool false]) W := by kernel_rfl
  rw [e]; split
  · rfl
  · exact z
theorem ta_Binary (u : TypeId) (v : Value) (W : World) : (Instr.typeAssert (.iface u v) 75 101 true).run Tryf.prog W = .ok (if u = 101 then .tuple #[v, .bool true] else .tuple #[.pointer none, .bool false]) W := by
  have e : (Instr.typeAssert (.iface u v) 75 101 true).run Tryf.prog W = (if u = 101 then (pure (Value.tuple #[v, .bool true]) : Sem Value) else (do pure (Value.tuple #[← zeroValue 101, .bool false]))).run Tryf.prog W := by kernel_rfl
  have z : (do pure (Value.tuple #[← zeroValue 101, .bool false]) : Sem Value).run Tryf.prog W = .ok (.tuple #[.pointer none, .bool false]) W := by kernel_rfl
  rw [e]; split
  · rfl
  · exact z
theorem ta_Conditional (u : TypeId) (v : Value) (W : World) : (Instr.typeAssert (.iface u v) 75 105 true).run Tryf.prog W = .ok (if u = 105 then .tuple #[v, .bool true] else .tuple #[.pointer none, .bool false]) W := by
  have e : (Instr.typeAssert (.iface u v) 75 105 true).run Tryf.prog W = (if u = 105 then (pure (Value.tuple #[v, .bool true]) : Sem Value) else (do pure (Value.tuple #[← zeroValue 105, .bool false]))).run Tryf.prog W := by kernel_rfl
  have z : (do pure (Value.tuple #[← zeroValue 105, .bool false]) : Sem Value).run Tryf.prog W = .ok (.tuple #[.pointer none, .bool false]) W := by kernel_rfl
  rw [e]; split
  · rfl
  · exact z
theorem ta_DesugaredObject (u : TypeId) (v : Value) (W : World) : (Instr.typeAssert (.iface u v) 75 241 true).run Tryf.prog W = .ok (if u = 241 then .tuple #[v, .bool true] else .tuple #[.pointer none, .bool false]) W := by
  have e : (Instr.typeAssert (.iface u v) 75 241 true).run Tryf.prog W = (if u = 241 then (pure (Value.tuple #[v, .bool true]) : Sem Value) else (do pure (Value.tuple #[← zeroValue 241, .bool false]))).run Tryf.prog W := by kernel_rfl
  have z : (do pure (Value.tuple #[← zeroValue 241, .bool false]) : Sem Value).run Tryf.prog W = .ok (.tuple #[.pointer none, .bool false]) W := by kernel_rfl
  rw [e]; split
  · rfl
  · exact z
theorem ta_Dollar (u : TypeId) (v : Value) (W : World) : (Instr.typeAssert (.iface u v) 75 202 true).run Tryf.prog W = .ok (if u = 202 then .tuple #[v, .bool true] else .tuple #[.pointer none, .bool false]) W := by
  have e : (Instr.typeAssert (.iface u v) 75 202 true).run Tryf.prog W = (if u = 202 then (pure (Value.tuple #[v, .bool true]) : Sem Value) else (do pure (Value.tuple #[← zeroValue 202, .bool false]))).run Tryf.prog W := by kernel_rfl
  have z : (do pure (Value.tuple #[← zeroValue 202, .bool false]) : Sem Value).run Tryf.prog W = .ok (.tuple #[.pointer none, .bool false]) W := by kernel_rfl
  rw [e]; split
  · rfl
  · exact z
theorem ta_Error (u : TypeId) (v : Value) (W : World) : (Instr.typeAssert (.iface u v) 75 151 true).run Tryf.prog W = .ok (if u = 151 then .tuple #[v, .bool true] else .tuple #[.pointer none, .bool false]) W := by
  have e : (Instr.typeAssert (.iface u v) 75 151 true).run Tryf.prog W = (if u = 151 then (pure (Value.tuple #[v, .bool true]) : Sem Value) else (do pure (Value.tuple #[← zeroValue 151, .bool false]))).run Tryf.prog W := by kernel_rfl
  have z : (do pure (Value.tuple #[← zeroValue 151, .bool false]) : Sem Value).run Tryf.prog W = .ok (.tuple #[.pointer none, .bool false]) W := by kernel_rfl
  rw [e]; split
  · rfl
  · exact z
theorem ta_Function (u : TypeId) (v : Value) (W : World) : (Instr.typeAssert (.iface u v) 75 110 true).run Tryf.prog W = .ok (if u = 110 then .tuple #[v, .bool true] else .tuple #[.pointer none, .bool false]) W := by
  have e : (Instr.typeAssert (.iface u v) 75 110 true).run Tryf.prog W = (if u = 110 then (pure (Value.tuple #[v, .bool true]) : Sem Value) else (do pure (Value.tuple #[← zeroValue 110, .bool false]))).run Tryf.prog W := by kernel_rfl
  have z : (do pure (Value.tuple #[← zeroValue 110, .bool false]) : Sem Value).run Tryf.prog W = .ok (.tuple #[.pointer none, .bool false]) W := by kernel_rfl
  rw [e]; split
  · rfl
  · exact z
theorem ta_Import (u : TypeId) (v : Value) (W : World) : (Instr.typeAssert (.iface u v) 75 206 true).run Tryf.prog W = .ok (if u = 206 then .tuple #[v, .bool true] else .tuple #[.pointer none, .bool false]) W := by
  have e : (Instr.typeAssert (.iface u v) 75 206 true).run Tryf.prog W = (if u = 206 then (pure (Value.tuple #[v, .bool true]) : Sem Value) else (do pure (Value.tuple #[← zeroValue 206, .bool false]))).run Tryf.prog W := by kernel_rfl
  have z : (do pure (Value.tuple #[← zeroValue 206, .bool false]) : Sem Value).run Tryf.prog W = .ok (.tuple #[.pointer none, .bool false]) W := by kernel_rfl
  rw [e]; split
  · rfl
  · exact z
theorem ta_ImportBin (u : TypeId) (v : Value) (W : World) : (Instr.typeAssert (.iface u v) 75 211 true).run Tryf.prog W = .ok (if u = 211 then .tuple #[v, .bool true] else .tuple #[.pointer none, .bool false]) W := by
  have e : (Instr.typeAssert (.iface u v) 75 211 true).run Tryf.prog W = (if u = 211 then (pure (Value.tuple #[v, .bool true]) : Sem Value) else (do pure (Value.tuple #[← zeroValue 211, .bool false]))).run Tryf.prog W := by kernel_rfl
  have z : (do pure (Value.tuple #[← zeroValue 211, .bool false]) : Sem Value).run Tryf.prog W = .ok (.tuple #[.pointer none, .bool false]) W := by kernel_rfl
  rw [e]; split
  · rfl
  · exact z
theorem ta_ImportStr (u : TypeId) (v : Value) (W : World) : (Instr.typeAssert (.iface u v) 75 209 true).run Tryf.prog W = .ok (if u = 209 then .tuple #[v, .bool true] else .tuple #[.pointer none, .bool false]) W := by
  have e : (Instr.typeAssert (.iface u v) 75 209 true).run Tryf.prog W = (if u = 209 then (pure (Value.tuple #[v, .bool true]) : Sem Value) else (do pure (Value.tuple #[← zeroValue 209, .bool false]))).run Tryf.prog W := by kernel_rfl
  have z : (do pure (Value.tuple #[← zeroValue 209, .bool false]) : Sem Value).run Tryf.prog W = .ok (.tuple #[.pointer none, .bool false]) W := by kernel_rfl
  rw [e]; split
  · rfl
  · exact z
theorem ta_InSuper (u : TypeId) (v : Value) (W : World) : (Instr.typeAssert (.iface u v) 75 157 true).run Tryf.prog W = .ok (if u = 157 then .tuple #[v, .bool true] else .tuple #[.pointer none, .bool false]) W := by
  have e : (Instr.typeAssert (.iface u v) 75 157 true).run Tryf.prog W = (if u = 157 then (pure (Value.tuple #[v, .bool true]) : Sem Value) else (do pure (Value.tuple #[← zeroValue 157, .bool false]))).run Tryf.prog W := by kernel_rfl
  have z : (do pure (Value.tuple #[← zeroValue 157, .bool false]) : Sem Value).run Tryf.prog W = .ok (.tuple #[.pointer none, .bool false]) W := by kernel_rfl
  rw [e]; split
  · rfl
  · exact z
theorem ta_Index (u : TypeId) (v : Value) (W : World) : (Instr.typeAssert (.iface u v) 75 117 true).run Tryf.prog W = .ok (if u = 117 then .tuple #[v, .bool true] else .tuple #[.pointer none, .bool false]) W := by
  have e : (Instr.typeAssert (.iface u v) 75 117 true).run Tryf.prog W = (if u = 117 then (pure (Value.tuple #[v, .bool true]) : Sem Value) else (do pure (Value.tuple #[← zeroValue 117, .bool false]))).run Tryf.prog W := by kernel_rfl
  have z : (do pure (Value.tuple #[← zeroValue 117, .bool false]) : Sem Value).run Tryf.prog W = .ok (.tuple #[.pointer none, .bool false]) W := by kernel_rfl
  rw [e]; split
  · rfl
  · exact z
theorem ta_LiteralBoolean (u : TypeId) (v : Value) (W : World) : (Instr.typeAssert (.iface u v) 75 195 true).run Tryf.prog W = .ok (if u = 195 then .tuple #[v, .bool true] else .tuple #[.pointer none, .bool false]) W := by
  have e : (Instr.typeAssert (.iface u v) 75 195 true).run Tryf.prog W = (if u = 195 then (pure (Value.tuple #[v, .bool true]) : Sem Value) else (do pure (Value.tuple #[← zeroValue 195, .bool false]))).run Tryf.prog W := by kernel_rfl
  have z : (do pure (Value.tuple #[← zeroValue 195, .bool false]) : Sem Value).run Tryf.prog W = .ok (.tuple #[.pointer none, .bool false]) W := by kernel_rfl
  rw [e]; split
  · rfl
  · exact z
theorem ta_LiteralNull (u : TypeId) (v : Value) (W : World) : (Instr.typeAssert (.iface u v) 75 194 true).run Tryf.prog W = .ok (if u = 194 then .tuple #[v, .bool true] else .tuple #[.pointer none, .bool false]) W := by
  have e : (Instr.typeAssert (.iface u v) 75 194 true).run Tryf.prog W = (if u = 194 then (pure (Value.tuple #[v, .bool true]) : Sem Value) else (do pure (Value.tuple #[← zeroValue 194, .bool false]))).run Tryf.prog W := by kernel_rfl
  have z : (do pure (Value.tuple #[← zeroValue 194, .bool false]) : Sem Value).run Tryf.prog W = .ok (.tuple #[.pointer none, .bool false]) W := by kernel_rfl
  rw [e]; split
  · rfl
  · exact z
theorem ta_LiteralNumber (u : TypeId) (v : Value) (W : World) : (Instr.typeAssert (.iface u v) 75 198 true).run Tryf.prog W = .ok (if u = 198 then .tuple #[v, .bool true] else .tuple #[.pointer none, .bool false]) W := by
  have e : (Instr.typeAssert (.iface u v) 75 198 true).run Tryf.prog W = (if u = 198 then (pure (Value.tuple #[v, .bool true]) : Sem Value) else (do pure (Value.tuple #[← zeroValue 198, .bool false]))).run Tryf.prog W := by kernel_rfl
  have z : (do pure (Value.tuple #[← zeroValue 198, .bool false]) : Sem Value).run Tryf.prog W = .ok (.tuple #[.pointer none, .bool false]) W := by kernel_rfl
  rw [e]; split
  · rfl
  · exact z
theorem ta_LiteralString (u : TypeId) (v : Value) (W : World) : (Instr.typeAssert (.iface u v) 75 54 true).run Tryf.prog W = .ok (if u = 54 then .tuple #[v, .bool true] else .tuple #[.pointer none, .bool false]) W := by
  have e : (Instr.typeAssert (.iface u v) 75 54 true).run Tryf.prog W = (if u = 54 then (pure (Value.tuple #[v, .bool true]) : Sem Value) else (do pure (Value.tuple #[← zeroValue 54, .bool false]))).run Tryf.prog W := by kernel_rfl
  have z : (do pure (Value.tuple #[← zeroValue 54, .bool false]) : Sem Value).run Tryf.prog W = .ok (.tuple #[.pointer none, .bool false]) W := by kernel_rfl
  rw [e]; split
  · rfl
  · exact z
theorem ta_Local (u : TypeId) (v : Value) (W : World) : (Instr.typeAssert (.iface u v) 75 108 true).run Tryf.prog W = .ok (if u = 108 then .tuple #[v, .bool true] else .tuple #[.pointer none, .bool false]) W := by
  have e : (Instr.typeAssert (.iface u v) 75 108 true).run Tryf.prog W = (if u = 108 then (pure (Value.tuple #[v, .bool true]) : Sem Value) else (do pure (Value.tuple #[← zeroValue 108, .bool false]))).run Tryf.prog W := by kernel_rfl
  have z : (do pure (Value.tuple #[← zeroValue 108, .bool false]) : Sem Value).run Tryf.prog W = .ok (.tuple #[.pointer none, .bool false]) W := by kernel_rfl
  rw [e]; split
  · rfl
  · exact z
theorem ta_Object (u : TypeId) (v : Value) (W : World) : (Instr.typeAssert (.iface u v) 75 139 true).run Tryf.prog W = .ok (if u = 139 then .tuple #[v, .bool true] else .tuple #[.pointer none, .bool false]) W := by
  have e : (Instr.typeAssert (.iface u v) 75 139 true).run Tryf.prog W = (if u = 139 then (pure (Value.tuple #[v, .bool true]) : Sem Value) else (do pure (Value.tuple #[← zeroValue 139, .bool false]))).run Tryf.prog W := by kernel_rfl
  have z : (do pure (Value.tuple #[← zeroValue 139, .bool false]) : Sem Value).run Tryf.prog W = .ok (.tuple #[.pointer none, .bool false]) W := by kernel_rfl
  rw [e]; split
  · rfl
  · exact z
theorem ta_ObjectComp (u : TypeId) (v : Value) (W : World) : (Instr.typeAssert (.iface u v) 75 145 true).run Tryf.prog W = .ok (if u = 145 then .tuple #[v, .bool true] else .tuple #[.pointer none, .bool false]) W := by
  have e : (Instr.typeAssert (.iface u v) 75 145 true).run Tryf.prog W = (if u = 145 then (pure (Value.tuple #[v, .bool true]) : Sem Value) else (do pure (Value.tuple #[← zeroValue 145, .bool false]))).run Tryf.prog W := by kernel_rfl
  have z : (do pure (Value.tuple #[← zeroValue 145, .bool false]) : Sem Value).run Tryf.prog W = .ok (.tuple #[.pointer none, .bool false]) W := by kernel_rfl
  rw [e]; split
  · rfl
  · exact z
theorem ta_Parens (u : TypeId) (v : Value) (W : World) : (Instr.typeAssert (.iface u v) 75 160 true).run Tryf.prog W = .ok (if u = 160 then .tuple #[v, .bool true] else .tuple #[.pointer none, .bool false]) W := by
  have e : (Instr.typeAssert (.iface u v) 75 160 true).run Tryf.prog W = (if u = 160 then (pure (Value.tuple #[v, .bool true]) : Sem Value) else (do pure (Value.tuple #[← zeroValue 160, .bool false]))).run Tryf.prog W := by kernel_rfl
  have z : (do pure (Value.tuple #[← zeroValue 160, .bool false]) : Sem Value).run Tryf.prog W = .ok (.tuple #[.pointer none, .bool false]) W := by kernel_rfl
  rw [e]; split
  · rfl
  · exact z
theorem ta_Self (u : TypeId) (v : Value) (W : World) : (Instr.typeAssert (.iface u v) 75 201 true).run Tryf.prog W = .ok (if u = 201 then .tuple #[v, .bool true] else .tuple #[.pointer none, .bool false]) W := by
  have e : (Instr.typeAssert (.iface u v) 75 201 true).run Tryf.prog W = (if u = 201 then (pure (Value.tuple #[v, .bool true]) : Sem Value) else (do pure (Value.tuple #[← zeroValue 201, .bool false]))).run Tryf.prog W := by kernel_rfl
  have z : (do pure (Value.tuple #[← zeroValue 201, .bool false]) : Sem Value).run Tryf.prog W = .ok (.tuple #[.pointer none, .bool false]) W := by kernel_rfl
  rw [e]; split
  · rfl
  · exact z
theorem ta_Slice (u : TypeId) (v : Value) (W : World) : (Instr.typeAssert (.iface u v) 75 122 true).run Tryf.prog W = .ok (if u = 122 then .tuple #[v, .bool true] else .tuple #[.pointer none, .bool false]) W := by
  have e : (Instr.typeAssert (.iface u v) 75 122 true).run Tryf.prog W = (if u = 122 then (pure (Value.tuple #[v, .bool true]) : Sem Value) else (do pure (Value.tuple #[← zeroValue 122, .bool false]))).run Tryf.prog W := by kernel_rfl
  have z : (do pure (Value.tuple #[← zeroValue 122, .bool false]) : Sem Value).run Tryf.prog W = .ok (.tuple #[.pointer none, .bool false]) W := by kernel_rfl
  rw [e]; split
  · rfl
  · exact z
theorem ta_SuperIndex (u : TypeId) (v : Value) (W : World) : (Instr.typeAssert (.iface u v) 75 154 true).run Tryf.prog W = .ok (if u = 154 then .tuple #[v, .bool true] else .tuple #[.pointer none, .bool false]) W := by
  have e : (Instr.typeAssert (.iface u v) 75 154 true).run Tryf.prog W = (if u = 154 then (pure (Value.tuple #[v, .bool true]) : Sem Value) else (do pure (Value.tuple #[← zeroValue 154, .bool false]))).run Tryf.prog W := by kernel_rfl
  have z : (do pure (Value.tuple #[← zeroValue 154, .bool false]) : Sem Value).run Tryf.prog W = .ok (.tuple #[.pointer none, .bool false]) W := by kernel_rfl
  rw [e]; split
  · rfl
  · exact z
theorem ta_Unary (u : TypeId) (v : Value) (W : World) : (Instr.typeAssert (.iface u v) 75 96 true).run Tryf.prog W = .ok (if u = 96 then .tuple #[v, .bool true] else .tuple #[.pointer none, .bool false]) W := by
  have e : (Instr.typeAssert (.iface u v) 75 96 true).run Tryf.prog W = (if u = 96 then (pure (Value.tuple #[v, .bool true]) : Sem Value) else (do pure (Value.tuple #[← zeroValue 96, .bool false]))).run Tryf.prog W := by kernel_rfl
  have z : (do pure (Value.tuple #[← zeroValue 96, .bool false]) : Sem Value).run Tryf.prog W = .ok (.tuple #[.pointer none, .bool false]) W := by kernel_rfl
  rw [e]; split
  · rfl
  · exact z
theorem ta_Var (u : TypeId) (v : Value) (W : World) : (Instr.typeAssert (.iface u v) 75 203 true).run Tryf.prog W = .ok (if u = 203 then .tuple #[v, .bool true] else .tuple #[.pointer none, .bool false]) W := by
  have e : (Instr.typeAssert (.iface u v) 75 203 true).run Tryf.prog W = (if u = 203 then (pure (Value.tuple #[v, .bool true]) : Sem Value) else (do pure (Value.tuple #[← zeroValue 203, .bool false]))).run Tryf.prog W := by kernel_rfl
  have z : (do pure (Value.tuple #[← zeroValue 203, .bool false]) : Sem Value).run Tryf.prog W = .ok (.tuple #[.pointer none, .bool false]) W := by kernel_rfl
  rw [e]; split
  · rfl
  · exact z
end Go.Proofs.YtceepfnjdkfjnaaFmt
