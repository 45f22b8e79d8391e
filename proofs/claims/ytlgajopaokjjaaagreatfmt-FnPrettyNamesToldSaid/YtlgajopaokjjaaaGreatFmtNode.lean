/-
  impl.simple, impl.one, and impl.node at leaves. Conditions: none.
-/
import Derived.Test.YtlgajopaokjjaaaGreatFmtBase
namespace Go.Proofs.YtlgajopaokjjaaaGreatFmt
open Go.ChangeShapes Go.WideShapes Go.ChangeAt Go.RowKit Go.Joins

attribute [local go_sem] ta_Apply ta_ApplyBrace ta_Array ta_ArrayComp ta_Assert ta_Binary ta_Conditional ta_Dollar ta_Error ta_Function ta_Import ta_ImportBin ta_ImportStr ta_InSuper ta_Index ta_LiteralBoolean ta_LiteralNull ta_LiteralNumber ta_LiteralString ta_Local ta_Object ta_ObjectComp ta_Parens ta_Self ta_Slice ta_SuperIndex ta_Unary ta_Var
def ZB : ByteArray := ByteArray.empty
/-- impl.node's contract at a tree that lies in memory; memory may have grown. -/
def NodeAt (w : World) (t : Tr) (y : TypeId) (b : Nat) : Prop := ∀ w' : World, Below w.heap.size w w' →
    Calls Tryz.prog 13 #[.iface y (.pointer (some ⟨b, 0, none⟩))] w' fun e w'' => TreeBack w' t e w'' ∧ Below w'.heap.size w' w''
theorem one_any (k op : Int) (tx : ByteArray) (fl : Bool) (a : Option Addr) (n c : Nat) (w : World) :
    Calls Tryz.prog 22 #[.int .i64 k, .string tx, .int .i64 op, .bool fl, .slice a n c] w fun e w' => e = .returned (.agg #[.int .i64 k, .string tx, .int .i64 op, .bool fl, .slice a n c]) ∧ Below w.heap.size w w' := by
  go_enter Tryz.func22, Tryz.ntmps22
  go_wp2
  exact bodyPost_ret (v := .agg #[.int .i64 k, .string tx, .int .i64 op, .bool fl, .slice a n c]) (by simp [results, Tryz.results22, go_sem]) rfl ⟨rfl, below_alloc1 _ _⟩
set_option maxRecDepth 100000 in
set_option maxHeartbeats 4000000 in
theorem simple_no (y : TypeId) (hy : y = 53 ∨ y = 69 ∨ y = 73 ∨ y = 85 ∨ y = 88 ∨ y = 96 ∨ y = 99 ∨ y = 76 ∨ y = 93 ∨ y = 128) (p : Value) (w : World) :
    Calls Tryz.prog 21 #[.iface y p] w fun e w' => e = .returned (.tuple #[.agg #[.int .i64 0, .string ByteArray.empty, .int .i64 0, .bool false, .slice none 0 0], .bool false]) ∧ Below w.heap.size w w' := by
  rcases hy with rfl | rfl | rfl | rfl | rfl | rfl | rfl | rfl | rfl | rfl
  all_goals
    go_enter Tryz.func21, Tryz.ntmps21
    go_wp2
    exact bodyPost_ret (v := .tuple #[.agg #[.int .i64 0, .string ByteArray.empty, .int .i64 0, .bool false, .slice none 0 0], .bool false]) (by simp [results, Tryz.results21, go_sem]; rfl) rfl ⟨rfl, below_alloc1 _ _⟩
set_option maxRecDepth 100000 in
set_option maxHeartbeats 4000000 in
theorem simple_null {w : World} {b : Nat} {p0 p1 : Option Addr} {n0 n1 : Nat} (hb : w.heap[b]? = some (.cells #[.slice p0 0 n0, .pointer none, .slice p1 0 n1, .pointer none, .string ByteArray.empty, .int .i64 0, .int .i64 0, .int .i64 0, .int .i64 0] 151)) :
    Calls Tryz.prog 21 #[.iface 149 (.pointer (some ⟨b, 0, none⟩))] w fun e w' => e = .returned (.tuple #[.agg #[.int .i64 1, .string ByteArray.empty, .int .i64 0, .bool false, .slice none 0 0], .bool true]) ∧ Below w.heap.size w w' := by
  have zb := heap_lt' hb
  clear hb
  go_enter Tryz.func21, Tryz.ntmps21
  go_wp2
  exact bodyPost_ret (v := .tuple #[.agg #[.int .i64 1, .string ByteArray.empty, .int .i64 0, .bool false, .slice none 0 0], .bool true]) (by simp [results, Tryz.results21, go_sem] <;> rfl) rfl ⟨rfl, below_alloc1 _ _⟩
set_option maxRecDepth 100000 in
set_option maxHeartbeats 4000000 in
theorem simple_boolean {w : World} {b : Nat} (fl : Bool) {p0 p1 : Option Addr} {n0 n1 : Nat} (hb : w.heap[b]? = some (.cells #[.slice p0 0 n0, .pointer none, .slice p1 0 n1, .pointer none, .string ByteArray.empty, .int .i64 0, .int .i64 0, .int .i64 0, .int .i64 0, .bool fl] 158)) :
    Calls Tryz.prog 21 #[.iface 156 (.pointer (some ⟨b, 0, none⟩))] w fun e w' => e = .returned (.tuple #[.agg #[.int .i64 2, .string ByteArray.empty, .int .i64 0, .bool fl, .slice none 0 0], .bool true]) ∧ Below w.heap.size w w' := by
  have q9 := cell_of (j := 9) hb rfl
  have zb := heap_lt' hb
  clear hb
  go_enter Tryz.func21, Tryz.ntmps21
  go_wp2
  exact bodyPost_ret (v := .tuple #[.agg #[.int .i64 2, .string ByteArray.empty, .int .i64 0, .bool fl, .slice none 0 0], .bool true]) (by simp [results, Tryz.results21, go_sem] <;> rfl) rfl ⟨rfl, below_alloc1 _ _⟩
set_option maxRecDepth 100000 in
set_option maxHeartbeats 4000000 in
theorem simple_number {w : World} {b : Nat} (tx : ByteArray) {p0 p1 : Option Addr} {n0 n1 : Nat} (hb : w.heap[b]? = some (.cells #[.string tx, .slice p0 0 n0, .pointer none, .slice p1 0 n1, .pointer none, .string ByteArray.empty, .int .i64 0, .int .i64 0, .int .i64 0, .int .i64 0] 161)) :
    Calls Tryz.prog 21 #[.iface 159 (.pointer (some ⟨b, 0, none⟩))] w fun e w' => e = .returned (.tuple #[.agg #[.int .i64 3, .string tx, .int .i64 0, .bool false, .slice none 0 0], .bool true]) ∧ Below w.heap.size w w' := by
  have q0 := cell_of (j := 0) hb rfl
  have zb := heap_lt' hb
  clear hb
  go_enter Tryz.func21, Tryz.ntmps21
  go_wp2
  exact bodyPost_ret (v := .tuple #[.agg #[.int .i64 3, .string tx, .int .i64 0, .bool false, .slice none 0 0], .bool true]) (by simp [results, Tryz.results21, go_sem] <;> rfl) rfl ⟨rfl, below_alloc1 _ _⟩
set_option maxRecDepth 100000 in
set_option maxHeartbeats 4000000 in
theorem simple_str {w : World} {b : Nat} (tx : ByteArray) (op : Int) {p0 p1 : Option Addr} {n0 n1 : Nat} (hb : w.heap[b]? = some (.cells #[.string tx, .string ByteArray.empty, .string ByteArray.empty, .slice p0 0 n0, .pointer none, .slice p1 0 n1, .pointer none, .string ByteArray.empty, .int .i64 0, .int .i64 0, .int .i64 0, .int .i64 0, .int .i64 op] 165)) :
    Calls Tryz.prog 21 #[.iface 162 (.pointer (some ⟨b, 0, none⟩))] w fun e w' => e = .returned (.tuple #[.agg #[.int .i64 4, .string tx, .int .i64 op, .bool false, .slice none 0 0], .bool true]) ∧ Below w.heap.size w w' := by
  have q0 := cell_of (j := 0) hb rfl
  have q12 := cell_of (j := 12) hb rfl
  have zb := heap_lt' hb
  clear hb
  go_enter Tryz.func21, Tryz.ntmps21
  go_wp2
  go_region
  all_goals go_wp2
  all_goals exact bodyPost_ret (v := .tuple #[.agg #[.int .i64 4, .string tx, .int .i64 op, .bool false, .slice none 0 0], .bool true]) (by simp [results, Tryz.results21, go_sem] <;> rfl) rfl ⟨rfl, (below_alloc1 _ _).drew⟩
set_option maxRecDepth 100000 in
set_option maxHeartbeats 4000000 in
theorem simple_self {w : World} {b : Nat} {p0 p1 : Option Addr} {n0 n1 : Nat} (hb : w.heap[b]? = some (.cells #[.slice p0 0 n0, .pointer none, .slice p1 0 n1, .pointer none, .string ByteArray.empty, .int .i64 0, .int .i64 0, .int .i64 0, .int .i64 0] 167)) :
    Calls Tryz.prog 21 #[.iface 166 (.pointer (some ⟨b, 0, none⟩))] w fun e w' => e = .returned (.tuple #[.agg #[.int .i64 5, .string ByteArray.empty, .int .i64 0, .bool false, .slice none 0 0], .bool true]) ∧ Below w.heap.size w w' := by
  have zb := heap_lt' hb
  clear hb
  go_enter Tryz.func21, Tryz.ntmps21
  go_wp2
  exact bodyPost_ret (v := .tuple #[.agg #[.int .i64 5, .string ByteArray.empty, .int .i64 0, .bool false, .slice none 0 0], .bool true]) (by simp [results, Tryz.results21, go_sem] <;> rfl) rfl ⟨rfl, below_alloc1 _ _⟩
set_option maxRecDepth 100000 in
set_option maxHeartbeats 4000000 in
theorem simple_dollar {w : World} {b : Nat} {p0 p1 : Option Addr} {n0 n1 : Nat} (hb : w.heap[b]? = some (.cells #[.slice p0 0 n0, .pointer none, .slice p1 0 n1, .pointer none, .string ByteArray.empty, .int .i64 0, .int .i64 0, .int .i64 0, .int .i64 0] 169)) :
    Calls Tryz.prog 21 #[.iface 168 (.pointer (some ⟨b, 0, none⟩))] w fun e w' => e = .returned (.tuple #[.agg #[.int .i64 6, .string ByteArray.empty, .int .i64 0, .bool false, .slice none 0 0], .bool true]) ∧ Below w.heap.size w w' := by
  have zb := heap_lt' hb
  clear hb
  go_enter Tryz.func21, Tryz.ntmps21
  go_wp2
  exact bodyPost_ret (v := .tuple #[.agg #[.int .i64 6, .string ByteArray.empty, .int .i64 0, .bool false, .slice none 0 0], .bool true]) (by simp [results, Tryz.results21, go_sem] <;> rfl) rfl ⟨rfl, below_alloc1 _ _⟩
set_option maxRecDepth 100000 in
set_option maxHeartbeats 4000000 in
theorem simple_var {w : World} {b : Nat} (tx : ByteArray) {p0 p1 : Option Addr} {n0 n1 : Nat} (hb : w.heap[b]? = some (.cells #[.string tx, .slice p0 0 n0, .pointer none, .slice p1 0 n1, .pointer none, .string ByteArray.empty, .int .i64 0, .int .i64 0, .int .i64 0, .int .i64 0] 172)) :
    Calls Tryz.prog 21 #[.iface 170 (.pointer (some ⟨b, 0, none⟩))] w fun e w' => e = .returned (.tuple #[.agg #[.int .i64 7, .string tx, .int .i64 0, .bool false, .slice none 0 0], .bool true]) ∧ Below w.heap.size w w' := by
  have q0 := cell_of (j := 0) hb rfl
  have zb := heap_lt' hb
  clear hb
  go_enter Tryz.func21, Tryz.ntmps21
  go_wp2
  exact bodyPost_ret (v := .tuple #[.agg #[.int .i64 7, .string tx, .int .i64 0, .bool false, .slice none 0 0], .bool true]) (by simp [results, Tryz.results21, go_sem] <;> rfl) rfl ⟨rfl, below_alloc1 _ _⟩
end Go.Proofs.YtlgajopaokjjaaaGreatFmt
