/-
  impl.node, at leaves and at kinds with a fixed number of parts. Conditions: none.
-/
import Derived.Test.YtlgajopaokjjaaaGreatFmtNode
import Derived.Test.YtlgajopaokjjaaaGreatFmtOwn
namespace Go.Proofs.YtlgajopaokjjaaaGreatFmt
open Go.ChangeShapes Go.WideShapes Go.ChangeAt Go.RowKit Go.Joins
attribute [local go_sem] ta_Apply ta_ApplyBrace ta_Array ta_ArrayComp ta_Assert ta_Binary ta_Conditional ta_Dollar ta_Error ta_Function ta_Import ta_ImportBin ta_ImportStr ta_InSuper ta_Index ta_LiteralBoolean ta_LiteralNull ta_LiteralNumber ta_LiteralString ta_Local ta_Object ta_ObjectComp ta_Parens ta_Self ta_Slice ta_SuperIndex ta_Unary ta_Var

theorem set5_at {w : World} {g : Nat} {c0 c1 c2 c3 c4 a b c d e : Value} {t : TypeId} (h : w.heap[g]? = some (.cells #[c0, c1, c2, c3, c4] t)) :
    (((((w.setCell ⟨g, 0, none⟩ a).setCell ⟨g, 1, none⟩ b).setCell ⟨g, 2, none⟩ c).setCell ⟨g, 3, none⟩ d).setCell ⟨g, 4, none⟩ e).heap[g]? = some (.cells #[a, b, c, d, e] t) := by
  simp [World.setCell, Array.getElem?_modify, h]
/-- A row of nodes in a new block. -/
theorem subs_block {w : World} {S : Nat → Prop} {l : List Tr} {xs : List Value} {g n : Nat} {cs : Array Value} {t : TypeId} (hb : w.heap[g]? = some (.cells cs t)) (hc : CellsT w S l xs) (he : cs.toList = xs) (hn : l.length = n) (hS : S g) : Subs w S l (.slice (some ⟨g, 0, none⟩) n n) := by
  subst hn
  refine hc.subs (fun j c hj => ?_) (Nat.le_refl _) hS
  subst he
  rw [Nat.zero_add]
  exact cell_of hb (by simpa using hj)

set_option maxRecDepth 100000 in
set_option maxHeartbeats 4000000 in
theorem node_null {w : World} {b : Nat} {p0 p1 : Option Addr} {n0 n1 : Nat} (hb : w.heap[b]? = some (.cells #[.slice p0 0 n0, .pointer none, .slice p1 0 n1, .pointer none, .string ByteArray.empty, .int .i64 0, .int .i64 0, .int .i64 0, .int .i64 0] 151)) : NodeAt w (.mk 1 ByteArray.empty 0 false []) 149 b := by
  intro w0 hw
  have HB := Lib.hid ((Below.heap_alloc w0 (.cells #[.int .i64 0, .string ByteArray.empty, .int .i64 0, .bool false, .slice none 0 0] 24) b (heap_lt ((hw.block b (heap_lt hb)).trans hb))).trans ((hw.block b (heap_lt hb)).trans hb))
  clear hb hw
  go_enter Tryz.func13, Tryz.ntmps13
  go_wp2_with fail
  refine (simple_null HB.out).mono ?_
  rintro e w1 ⟨rfl, hb1⟩
  have HR := Lib.hid ((hb1.block w0.heap.size (by simp)).trans (heap_alloc_new w0 (.cells #[.int .i64 0, .string ByteArray.empty, .int .i64 0, .bool false, .slice none 0 0] 24)))
  have hB := (below_alloc1 w0 (.cells #[.int .i64 0, .string ByteArray.empty, .int .i64 0, .bool false, .slice none 0 0] 24)).trans (hb1.mono (by simp))
  have zr : w0.heap.size < w1.heap.size := heap_lt HR.out
  have r0 := cell_of (j := 0) HR.out rfl
  have r1 := cell_of (j := 1) HR.out rfl
  have r2 := cell_of (j := 2) HR.out rfl
  have r3 := cell_of (j := 3) HR.out rfl
  have r4 := cell_of (j := 4) HR.out rfl
  have r5 := fun i => unfrozen_of_block HR.out i
  clear hb1
  go_wp2
  have hr5 := set5_at (a := .int .i64 1) (b := .string ByteArray.empty) (c := .int .i64 0) (d := .bool false) (e := .slice none 0 0) HR.out
  have hc := below_set5 (a := .int .i64 1) (b := .string ByteArray.empty) (c := .int .i64 0) (d := .bool false) (e := .slice none 0 0) hB (Nat.le_refl _)
  have hr6 := (Below.heap_alloc _ (.cells #[.int .i64 1, .string ByteArray.empty, .int .i64 0, .bool false, .slice none 0 0] 24) w0.heap.size (heap_lt hr5)).trans hr5
  have q0 := cell_of (j := 0) hr6 rfl
  have q1 := cell_of (j := 1) hr6 rfl
  have q2 := cell_of (j := 2) hr6 rfl
  have q3 := cell_of (j := 3) hr6 rfl
  have q4 := cell_of (j := 4) hr6 rfl
  exact bodyPost_ret (v := .agg #[.int .i64 1, .string ByteArray.empty, .int .i64 0, .bool false, .slice none 0 0]) (by simp [results, Tryz.results13, go_sem, q0, q1, q2, q3, q4]) rfl ⟨⟨_, rfl, .none _ _⟩, hc.alloc hc.size _⟩

set_option maxRecDepth 100000 in
set_option maxHeartbeats 4000000 in
theorem node_boolean {w : World} {b : Nat} {fl : Bool} {p0 p1 : Option Addr} {n0 n1 : Nat} (hb : w.heap[b]? = some (.cells #[.slice p0 0 n0, .pointer none, .slice p1 0 n1, .pointer none, .string ByteArray.empty, .int .i64 0, .int .i64 0, .int .i64 0, .int .i64 0, .bool fl] 158)) : NodeAt w (.mk 2 ByteArray.empty 0 fl []) 156 b := by
  intro w0 hw
  have HB := Lib.hid ((Below.heap_alloc w0 (.cells #[.int .i64 0, .string ByteArray.empty, .int .i64 0, .bool false, .slice none 0 0] 24) b (heap_lt ((hw.block b (heap_lt hb)).trans hb))).trans ((hw.block b (heap_lt hb)).trans hb))
  clear hb hw
  go_enter Tryz.func13, Tryz.ntmps13
  go_wp2_with fail
  refine (simple_boolean fl HB.out).mono ?_
  rintro e w1 ⟨rfl, hb1⟩
  have HR := Lib.hid ((hb1.block w0.heap.size (by simp)).trans (heap_alloc_new w0 (.cells #[.int .i64 0, .string ByteArray.empty, .int .i64 0, .bool false, .slice none 0 0] 24)))
  have hB := (below_alloc1 w0 (.cells #[.int .i64 0, .string ByteArray.empty, .int .i64 0, .bool false, .slice none 0 0] 24)).trans (hb1.mono (by simp))
  have zr : w0.heap.size < w1.heap.size := heap_lt HR.out
  have r0 := cell_of (j := 0) HR.out rfl
  have r1 := cell_of (j := 1) HR.out rfl
  have r2 := cell_of (j := 2) HR.out rfl
  have r3 := cell_of (j := 3) HR.out rfl
  have r4 := cell_of (j := 4) HR.out rfl
  have r5 := fun i => unfrozen_of_block HR.out i
  clear hb1
  go_wp2
  have hr5 := set5_at (a := .int .i64 2) (b := .string ByteArray.empty) (c := .int .i64 0) (d := .bool fl) (e := .slice none 0 0) HR.out
  have hc := below_set5 (a := .int .i64 2) (b := .string ByteArray.empty) (c := .int .i64 0) (d := .bool fl) (e := .slice none 0 0) hB (Nat.le_refl _)
  have hr6 := (Below.heap_alloc _ (.cells #[.int .i64 2, .string ByteArray.empty, .int .i64 0, .bool fl, .slice none 0 0] 24) w0.heap.size (heap_lt hr5)).trans hr5
  have q0 := cell_of (j := 0) hr6 rfl
  have q1 := cell_of (j := 1) hr6 rfl
  have q2 := cell_of (j := 2) hr6 rfl
  have q3 := cell_of (j := 3) hr6 rfl
  have q4 := cell_of (j := 4) hr6 rfl
  exact bodyPost_ret (v := .agg #[.int .i64 2, .string ByteArray.empty, .int .i64 0, .bool fl, .slice none 0 0]) (by simp [results, Tryz.results13, go_sem, q0, q1, q2, q3, q4]) rfl ⟨⟨_, rfl, .none _ _⟩, hc.alloc hc.size _⟩

set_option maxRecDepth 100000 in
set_option maxHeartbeats 4000000 in
theorem node_number {w : World} {b : Nat} {tx : ByteArray} {p0 p1 : Option Addr} {n0 n1 : Nat} (hb : w.heap[b]? = some (.cells #[.string tx, .slice p0 0 n0, .pointer none, .slice p1 0 n1, .pointer none, .string ByteArray.empty, .int .i64 0, .int .i64 0, .int .i64 0, .int .i64 0] 161)) : NodeAt w (.mk 3 tx 0 false []) 159 b := by
  intro w0 hw
  have HB := Lib.hid ((Below.heap_alloc w0 (.cells #[.int .i64 0, .string ByteArray.empty, .int .i64 0, .bool false, .slice none 0 0] 24) b (heap_lt ((hw.block b (heap_lt hb)).trans hb))).trans ((hw.block b (heap_lt hb)).trans hb))
  clear hb hw
  go_enter Tryz.func13, Tryz.ntmps13
  go_wp2_with fail
  refine (simple_number tx HB.out).mono ?_
  rintro e w1 ⟨rfl, hb1⟩
  have HR := Lib.hid ((hb1.block w0.heap.size (by simp)).trans (heap_alloc_new w0 (.cells #[.int .i64 0, .string ByteArray.empty, .int .i64 0, .bool false, .slice none 0 0] 24)))
  have hB := (below_alloc1 w0 (.cells #[.int .i64 0, .string ByteArray.empty, .int .i64 0, .bool false, .slice none 0 0] 24)).trans (hb1.mono (by simp))
  have zr : w0.heap.size < w1.heap.size := heap_lt HR.out
  have r0 := cell_of (j := 0) HR.out rfl
  have r1 := cell_of (j := 1) HR.out rfl
  have r2 := cell_of (j := 2) HR.out rfl
  have r3 := cell_of (j := 3) HR.out rfl
  have r4 := cell_of (j := 4) HR.out rfl
  have r5 := fun i => unfrozen_of_block HR.out i
  clear hb1
  go_wp2
  have hr5 := set5_at (a := .int .i64 3) (b := .string tx) (c := .int .i64 0) (d := .bool false) (e := .slice none 0 0) HR.out
  have hc := below_set5 (a := .int .i64 3) (b := .string tx) (c := .int .i64 0) (d := .bool false) (e := .slice none 0 0) hB (Nat.le_refl _)
  have hr6 := (Below.heap_alloc _ (.cells #[.int .i64 3, .string tx, .int .i64 0, .bool false, .slice none 0 0] 24) w0.heap.size (heap_lt hr5)).trans hr5
  have q0 := cell_of (j := 0) hr6 rfl
  have q1 := cell_of (j := 1) hr6 rfl
  have q2 := cell_of (j := 2) hr6 rfl
  have q3 := cell_of (j := 3) hr6 rfl
  have q4 := cell_of (j := 4) hr6 rfl
  exact bodyPost_ret (v := .agg #[.int .i64 3, .string tx, .int .i64 0, .bool false, .slice none 0 0]) (by simp [results, Tryz.results13, go_sem, q0, q1, q2, q3, q4]) rfl ⟨⟨_, rfl, .none _ _⟩, hc.alloc hc.size _⟩

set_option maxRecDepth 100000 in
set_option maxHeartbeats 4000000 in
theorem node_str {w : World} {b : Nat} {tx : ByteArray} {op : Int} {p0 p1 : Option Addr} {n0 n1 : Nat} (hb : w.heap[b]? = some (.cells #[.string tx, .string ByteArray.empty, .string ByteArray.empty, .slice p0 0 n0, .pointer none, .slice p1 0 n1, .pointer none, .string ByteArray.empty, .int .i64 0, .int .i64 0, .int .i64 0, .int .i64 0, .int .i64 op] 165)) : NodeAt w (.mk 4 tx op false []) 162 b := by
  intro w0 hw
  have HB := Lib.hid ((Below.heap_alloc w0 (.cells #[.int .i64 0, .string ByteArray.empty, .int .i64 0, .bool false, .slice none 0 0] 24) b (heap_lt ((hw.block b (heap_lt hb)).trans hb))).trans ((hw.block b (heap_lt hb)).trans hb))
  clear hb hw
  go_enter Tryz.func13, Tryz.ntmps13
  go_wp2_with fail
  refine (simple_str tx op HB.out).mono ?_
  rintro e w1 ⟨rfl, hb1⟩
  have HR := Lib.hid ((hb1.block w0.heap.size (by simp)).trans (heap_alloc_new w0 (.cells #[.int .i64 0, .string ByteArray.empty, .int .i64 0, .bool false, .slice none 0 0] 24)))
  have hB := (below_alloc1 w0 (.cells #[.int .i64 0, .string ByteArray.empty, .int .i64 0, .bool false, .slice none 0 0] 24)).trans (hb1.mono (by simp))
  have zr : w0.heap.size < w1.heap.size := heap_lt HR.out
  have r0 := cell_of (j := 0) HR.out rfl
  have r1 := cell_of (j := 1) HR.out rfl
  have r2 := cell_of (j := 2) HR.out rfl
  have r3 := cell_of (j := 3) HR.out rfl
  have r4 := cell_of (j := 4) HR.out rfl
  have r5 := fun i => unfrozen_of_block HR.out i
  clear hb1
  go_wp2
  have hr5 := set5_at (a := .int .i64 4) (b := .string tx) (c := .int .i64 op) (d := .bool false) (e := .slice none 0 0) HR.out
  have hc := below_set5 (a := .int .i64 4) (b := .string tx) (c := .int .i64 op) (d := .bool false) (e := .slice none 0 0) hB (Nat.le_refl _)
  have hr6 := (Below.heap_alloc _ (.cells #[.int .i64 4, .string tx, .int .i64 op, .bool false, .slice none 0 0] 24) w0.heap.size (heap_lt hr5)).trans hr5
  have q0 := cell_of (j := 0) hr6 rfl
  have q1 := cell_of (j := 1) hr6 rfl
  have q2 := cell_of (j := 2) hr6 rfl
  have q3 := cell_of (j := 3) hr6 rfl
  have q4 := cell_of (j := 4) hr6 rfl
  exact bodyPost_ret (v := .agg #[.int .i64 4, .string tx, .int .i64 op, .bool false, .slice none 0 0]) (by simp [results, Tryz.results13, go_sem, q0, q1, q2, q3, q4]) rfl ⟨⟨_, rfl, .none _ _⟩, hc.alloc hc.size _⟩

set_option maxRecDepth 100000 in
set_option maxHeartbeats 4000000 in
theorem node_self {w : World} {b : Nat} {p0 p1 : Option Addr} {n0 n1 : Nat} (hb : w.heap[b]? = some (.cells #[.slice p0 0 n0, .pointer none, .slice p1 0 n1, .pointer none, .string ByteArray.empty, .int .i64 0, .int .i64 0, .int .i64 0, .int .i64 0] 167)) : NodeAt w (.mk 5 ByteArray.empty 0 false []) 166 b := by
  intro w0 hw
  have HB := Lib.hid ((Below.heap_alloc w0 (.cells #[.int .i64 0, .string ByteArray.empty, .int .i64 0, .bool false, .slice none 0 0] 24) b (heap_lt ((hw.block b (heap_lt hb)).trans hb))).trans ((hw.block b (heap_lt hb)).trans hb))
  clear hb hw
  go_enter Tryz.func13, Tryz.ntmps13
  go_wp2_with fail
  refine (simple_self HB.out).mono ?_
  rintro e w1 ⟨rfl, hb1⟩
  have HR := Lib.hid ((hb1.block w0.heap.size (by simp)).trans (heap_alloc_new w0 (.cells #[.int .i64 0, .string ByteArray.empty, .int .i64 0, .bool false, .slice none 0 0] 24)))
  have hB := (below_alloc1 w0 (.cells #[.int .i64 0, .string ByteArray.empty, .int .i64 0, .bool false, .slice none 0 0] 24)).trans (hb1.mono (by simp))
  have zr : w0.heap.size < w1.heap.size := heap_lt HR.out
  have r0 := cell_of (j := 0) HR.out rfl
  have r1 := cell_of (j := 1) HR.out rfl
  have r2 := cell_of (j := 2) HR.out rfl
  have r3 := cell_of (j := 3) HR.out rfl
  have r4 := cell_of (j := 4) HR.out rfl
  have r5 := fun i => unfrozen_of_block HR.out i
  clear hb1
  go_wp2
  have hr5 := set5_at (a := .int .i64 5) (b := .string ByteArray.empty) (c := .int .i64 0) (d := .bool false) (e := .slice none 0 0) HR.out
  have hc := below_set5 (a := .int .i64 5) (b := .string ByteArray.empty) (c := .int .i64 0) (d := .bool false) (e := .slice none 0 0) hB (Nat.le_refl _)
  have hr6 := (Below.heap_alloc _ (.cells #[.int .i64 5, .string ByteArray.empty, .int .i64 0, .bool false, .slice none 0 0] 24) w0.heap.size (heap_lt hr5)).trans hr5
  have q0 := cell_of (j := 0) hr6 rfl
  have q1 := cell_of (j := 1) hr6 rfl
  have q2 := cell_of (j := 2) hr6 rfl
  have q3 := cell_of (j := 3) hr6 rfl
  have q4 := cell_of (j := 4) hr6 rfl
  exact bodyPost_ret (v := .agg #[.int .i64 5, .string ByteArray.empty, .int .i64 0, .bool false, .slice none 0 0]) (by simp [results, Tryz.results13, go_sem, q0, q1, q2, q3, q4]) rfl ⟨⟨_, rfl, .none _ _⟩, hc.alloc hc.size _⟩

set_option maxRecDepth 100000 in
set_option maxHeartbeats 4000000 in
theorem node_dollar {w : World} {b : Nat} {p0 p1 : Option Addr} {n0 n1 : Nat} (hb : w.heap[b]? = some (.cells #[.slice p0 0 n0, .pointer none, .slice p1 0 n1, .pointer none, .string ByteArray.empty, .int .i64 0, .int .i64 0, .int .i64 0, .int .i64 0] 169)) : NodeAt w (.mk 6 ByteArray.empty 0 false []) 168 b := by
  intro w0 hw
  have HB := Lib.hid ((Below.heap_alloc w0 (.cells #[.int .i64 0, .string ByteArray.empty, .int .i64 0, .bool false, .slice none 0 0] 24) b (heap_lt ((hw.block b (heap_lt hb)).trans hb))).trans ((hw.block b (heap_lt hb)).trans hb))
  clear hb hw
  go_enter Tryz.func13, Tryz.ntmps13
  go_wp2_with fail
  refine (simple_dollar HB.out).mono ?_
  rintro e w1 ⟨rfl, hb1⟩
  have HR := Lib.hid ((hb1.block w0.heap.size (by simp)).trans (heap_alloc_new w0 (.cells #[.int .i64 0, .string ByteArray.empty, .int .i64 0, .bool false, .slice none 0 0] 24)))
  have hB := (below_alloc1 w0 (.cells #[.int .i64 0, .string ByteArray.empty, .int .i64 0, .bool false, .slice none 0 0] 24)).trans (hb1.mono (by simp))
  have zr : w0.heap.size < w1.heap.size := heap_lt HR.out
  have r0 := cell_of (j := 0) HR.out rfl
  have r1 := cell_of (j := 1) HR.out rfl
  have r2 := cell_of (j := 2) HR.out rfl
  have r3 := cell_of (j := 3) HR.out rfl
  have r4 := cell_of (j := 4) HR.out rfl
  have r5 := fun i => unfrozen_of_block HR.out i
  clear hb1
  go_wp2
  have hr5 := set5_at (a := .int .i64 6) (b := .string ByteArray.empty) (c := .int .i64 0) (d := .bool false) (e := .slice none 0 0) HR.out
  have hc := below_set5 (a := .int .i64 6) (b := .string ByteArray.empty) (c := .int .i64 0) (d := .bool false) (e := .slice none 0 0) hB (Nat.le_refl _)
  have hr6 := (Below.heap_alloc _ (.cells #[.int .i64 6, .string ByteArray.empty, .int .i64 0, .bool false, .slice none 0 0] 24) w0.heap.size (heap_lt hr5)).trans hr5
  have q0 := cell_of (j := 0) hr6 rfl
  have q1 := cell_of (j := 1) hr6 rfl
  have q2 := cell_of (j := 2) hr6 rfl
  have q3 := cell_of (j := 3) hr6 rfl
  have q4 := cell_of (j := 4) hr6 rfl
  exact bodyPost_ret (v := .agg #[.int .i64 6, .string ByteArray.empty, .int .i64 0, .bool false, .slice none 0 0]) (by simp [results, Tryz.results13, go_sem, q0, q1, q2, q3, q4]) rfl ⟨⟨_, rfl, .none _ _⟩, hc.alloc hc.size _⟩

set_option maxRecDepth 100000 in
set_option maxHeartbeats 4000000 in
theorem node_var {w : World} {b : Nat} {tx : ByteArray} {p0 p1 : Option Addr} {n0 n1 : Nat} (hb : w.heap[b]? = some (.cells #[.string tx, .slice p0 0 n0, .pointer none, .slice p1 0 n1, .pointer none, .string ByteArray.empty, .int .i64 0, .int .i64 0, .int .i64 0, .int .i64 0] 172)) : NodeAt w (.mk 7 tx 0 false []) 170 b := by
  intro w0 hw
  have HB := Lib.hid ((Below.heap_alloc w0 (.cells #[.int .i64 0, .string ByteArray.empty, .int .i64 0, .bool false, .slice none 0 0] 24) b (heap_lt ((hw.block b (heap_lt hb)).trans hb))).trans ((hw.block b (heap_lt hb)).trans hb))
  clear hb hw
  go_enter Tryz.func13, Tryz.ntmps13
  go_wp2_with fail
  refine (simple_var tx HB.out).mono ?_
  rintro e w1 ⟨rfl, hb1⟩
  have HR := Lib.hid ((hb1.block w0.heap.size (by simp)).trans (heap_alloc_new w0 (.cells #[.int .i64 0, .string ByteArray.empty, .int .i64 0, .bool false, .slice none 0 0] 24)))
  have hB := (below_alloc1 w0 (.cells #[.int .i64 0, .string ByteArray.empty, .int .i64 0, .bool false, .slice none 0 0] 24)).trans (hb1.mono (by simp))
  have zr : w0.heap.size < w1.heap.size := heap_lt HR.out
  have r0 := cell_of (j := 0) HR.out rfl
  have r1 := cell_of (j := 1) HR.out rfl
  have r2 := cell_of (j := 2) HR.out rfl
  have r3 := cell_of (j := 3) HR.out rfl
  have r4 := cell_of (j := 4) HR.out rfl
  have r5 := fun i => unfrozen_of_block HR.out i
  clear hb1
  go_wp2
  have hr5 := set5_at (a := .int .i64 7) (b := .string tx) (c := .int .i64 0) (d := .bool false) (e := .slice none 0 0) HR.out
  have hc := below_set5 (a := .int .i64 7) (b := .string tx) (c := .int .i64 0) (d := .bool false) (e := .slice none 0 0) hB (Nat.le_refl _)
  have hr6 := (Below.heap_alloc _ (.cells #[.int .i64 7, .string tx, .int .i64 0, .bool false, .slice none 0 0] 24) w0.heap.size (heap_lt hr5)).trans hr5
  have q0 := cell_of (j := 0) hr6 rfl
  have q1 := cell_of (j := 1) hr6 rfl
  have q2 := cell_of (j := 2) hr6 rfl
  have q3 := cell_of (j := 3) hr6 rfl
  have q4 := cell_of (j := 4) hr6 rfl
  exact bodyPost_ret (v := .agg #[.int .i64 7, .string tx, .int .i64 0, .bool false, .slice none 0 0]) (by simp [results, Tryz.results13, go_sem, q0, q1, q2, q3, q4]) rfl ⟨⟨_, rfl, .none _ _⟩, hc.alloc hc.size _⟩

set_option maxRecDepth 100000 in
set_option maxHeartbeats 4000000 in
theorem node_unary {w : World} {b : Nat} {op : Int} {p0 p1 : Option Addr} {n0 n1 : Nat} {t1 : Tr} {y1 : TypeId} {b1 : Nat} (hb : w.heap[b]? = some (.cells #[.iface y1 (.pointer (some ⟨b1, 0, none⟩)), .slice p0 0 n0, .pointer none, .slice p1 0 n1, .pointer none, .string ByteArray.empty, .int .i64 0, .int .i64 0, .int .i64 0, .int .i64 0, .int .i64 op] 68)) (N1 : NodeAt w t1 y1 b1) : NodeAt w (.mk 8 ByteArray.empty op false [t1]) 53 b := by
  intro w0 hw
  have HB := Lib.hid ((hw.block b (heap_lt hb)).trans hb)
  have zb : b < w0.heap.size := heap_lt HB.out
  have HW := Lib.hid hw
  clear hb hw
  go_enter Tryz.func13, Tryz.ntmps13
  go_wp2_with fail
  refine (simple_no 53 (by simp) _ _).mono ?_
  rintro e w1 ⟨rfl, hb1⟩
  have HR := Lib.hid ((hb1.block w0.heap.size (by simp)).trans (heap_alloc_new w0 (.cells #[.int .i64 0, .string ByteArray.empty, .int .i64 0, .bool false, .slice none 0 0] 24)))
  have HB1 := Lib.hid ((below_alloc1 w0 (.cells #[.int .i64 0, .string ByteArray.empty, .int .i64 0, .bool false, .slice none 0 0] 24)).trans (hb1.mono (by simp)))
  have zr : w0.heap.size < w1.heap.size := heap_lt HR.out
  have zb1 : b < w1.heap.size := by omega
  have q0 := (World.cell?_of_block (w := w0) (w' := w1) (a := ⟨b, 0, none⟩) (HB1.out.block b zb)).trans (cell_of (j := 0) HB.out rfl)
  have q10 := (World.cell?_of_block (w := w0) (w' := w1) (a := ⟨b, 10, none⟩) (HB1.out.block b zb)).trans (cell_of (j := 10) HB.out rfl)
  have HD1 := Lib.hid ((below_alloc1 w1 (.cells #[.int .i64 0, .string ByteArray.empty, .int .i64 0, .bool false, .slice none 0 0] 24)).drew)
  have HW1 := Lib.hid (HW.out.trans ((HB1.out.mono HW.out.size).trans (HD1.out.mono (Nat.le_trans HW.out.size HB1.out.size))))
  clear hb1
  go_wp2_with fail
  go_region_law ((first
    | (refine step_call (by rfl) (N1 _ HW1.out) ?_ ?_; (focus (go_simp; done)); rintro e w4 ⟨⟨u1, rfl, hs1⟩, hb4⟩; refine ⟨_, rfl, ?_⟩; obtain ⟨a1, c1, rfl, hc1⟩ := hs1.form; have HS1 := Lib.hid hs1; clear hs1; have HD2 := Lib.hid (HD1.out.trans (hb4.mono HD1.out.size)); have HK2 := Lib.hid hb4; clear hb4; have z1 : w1.heap.size < w4.heap.size := Nat.lt_of_lt_of_le (by simp) HK2.out.size; have q0_1 := (World.cell?_of_block (w := w1) (w' := w4) (a := ⟨b, 0, none⟩) (HD2.out.block b zb1)).trans q0; have q10_1 := (World.cell?_of_block (w := w1) (w' := w4) (a := ⟨b, 10, none⟩) (HD2.out.block b zb1)).trans q10; have zbb1 : b < w4.heap.size := Nat.lt_trans zb1 z1)
    | (refine step_call (by rfl) (one_any 8 op ⟨#[]⟩ false (some ⟨w4.heap.size, 0, none⟩) 1 1 _) ?_ ?_; (focus (go_simp; done)); rintro e w8 ⟨rfl, hb8⟩; refine ⟨_, rfl, ?_⟩; have HZ := Lib.hid ((below_alloc1 w4 (.cells #[.int .i64 t1.k, .string t1.tx, .int .i64 t1.op, .bool t1.fl, .slice a1 t1.subs.length c1] 24)).trans (hb8.mono (by simp))); have HNR := Lib.hid ((hb8.block w4.heap.size (by simp)).trans (heap_alloc_new w4 (.cells #[.int .i64 t1.k, .string t1.tx, .int .i64 t1.op, .bool t1.fl, .slice a1 t1.subs.length c1] 24))); clear hb8; have HR8 := Lib.hid ((HZ.out.block w0.heap.size (by omega)).trans ((HD2.out.block w0.heap.size zr).trans HR.out)); have r0 := cell_of (j := 0) HR8.out rfl; have r1 := cell_of (j := 1) HR8.out rfl; have r2 := cell_of (j := 2) HR8.out rfl; have r3 := cell_of (j := 3) HR8.out rfl; have r4 := cell_of (j := 4) HR8.out rfl; have r5 := fun i => unfrozen_of_block HR8.out i)))
  all_goals
    go_wp2
    have hr6 := set5_at (a := .int .i64 8) (b := .string ⟨#[]⟩) (c := .int .i64 op) (d := .bool false) (e := .slice (some ⟨w4.heap.size, 0, none⟩) 1 1) HR8.out
    have v0 := cell_of (j := 0) hr6 rfl
    have v1 := cell_of (j := 1) hr6 rfl
    have v2 := cell_of (j := 2) hr6 rfl
    have v3 := cell_of (j := 3) hr6 rfl
    have v4 := cell_of (j := 4) hr6 rfl
    have hB8 := HB1.out.trans ((HD2.out.mono HB1.out.size).trans (HZ.out.mono (Nat.le_trans HB1.out.size HD2.out.size)))
    have hz1 := HB1.out.size
    have hz8 := HZ.out.size
    have hzn := heap_lt HNR.out
    refine bodyPost_ret (v := .agg #[.int .i64 8, .string ⟨#[]⟩, .int .i64 op, .bool false, .slice (some ⟨w4.heap.size, 0, none⟩) 1 1]) (by simp [results, Tryz.results13, go_sem, v0, v1, v2, v3, v4]) rfl ⟨⟨_, rfl, ?_⟩, below_set5 hB8 (Nat.le_refl _)⟩
    refine subs_block ((heap_set5 (by omega)).trans HNR.out) (CellsT.keep (w := w8) (S := fun k => w1.heap.size ≤ k) (fun k hk _ => ?_) (fun k hk _ => heap_set5 (by omega)) (CellsT.one (t := t1) (((HS1.out).bel HZ.out).mono (T := fun k => w1.heap.size ≤ k) (fun k hk _ => by have hk' := hk; first | (simp at hk'; omega) | omega)))) rfl rfl ?_
    · show w0.heap.size ≤ k
      omega
    · show w0.heap.size ≤ _
      omega

set_option maxRecDepth 100000 in
set_option maxHeartbeats 4000000 in
theorem node_error {w : World} {b : Nat} {p0 p1 : Option Addr} {n0 n1 : Nat} {t1 : Tr} {y1 : TypeId} {b1 : Nat} (hb : w.heap[b]? = some (.cells #[.iface y1 (.pointer (some ⟨b1, 0, none⟩)), .slice p0 0 n0, .pointer none, .slice p1 0 n1, .pointer none, .string ByteArray.empty, .int .i64 0, .int .i64 0, .int .i64 0, .int .i64 0] 98)) (N1 : NodeAt w t1 y1 b1) : NodeAt w (.mk 23 ByteArray.empty 0 false [t1]) 96 b := by
  intro w0 hw
  have HB := Lib.hid ((hw.block b (heap_lt hb)).trans hb)
  have zb : b < w0.heap.size := heap_lt HB.out
  have HW := Lib.hid hw
  clear hb hw
  go_enter Tryz.func13, Tryz.ntmps13
  go_wp2_with fail
  refine (simple_no 96 (by simp) _ _).mono ?_
  rintro e w1 ⟨rfl, hb1⟩
  have HR := Lib.hid ((hb1.block w0.heap.size (by simp)).trans (heap_alloc_new w0 (.cells #[.int .i64 0, .string ByteArray.empty, .int .i64 0, .bool false, .slice none 0 0] 24)))
  have HB1 := Lib.hid ((below_alloc1 w0 (.cells #[.int .i64 0, .string ByteArray.empty, .int .i64 0, .bool false, .slice none 0 0] 24)).trans (hb1.mono (by simp)))
  have zr : w0.heap.size < w1.heap.size := heap_lt HR.out
  have zb1 : b < w1.heap.size := by omega
  have q0 := (World.cell?_of_block (w := w0) (w' := w1) (a := ⟨b, 0, none⟩) (HB1.out.block b zb)).trans (cell_of (j := 0) HB.out rfl)
  have HD1 := Lib.hid ((below_alloc1 w1 (.cells #[.int .i64 0, .string ByteArray.empty, .int .i64 0, .bool false, .slice none 0 0] 24)))
  have HW1 := Lib.hid (HW.out.trans ((HB1.out.mono HW.out.size).trans (HD1.out.mono (Nat.le_trans HW.out.size HB1.out.size))))
  clear hb1
  go_wp2_with fail
  refine (N1 _ HW1.out).mono ?_
  rintro e w4 ⟨⟨u1, rfl, hs1⟩, hb4⟩
  obtain ⟨a1, c1, rfl, hc1⟩ := hs1.form; have HS1 := Lib.hid hs1; clear hs1; have HD2 := Lib.hid (HD1.out.trans (hb4.mono HD1.out.size)); have HK2 := Lib.hid hb4; clear hb4; have z1 : w1.heap.size < w4.heap.size := Nat.lt_of_lt_of_le (by simp) HK2.out.size; have q0_1 := (World.cell?_of_block (w := w1) (w' := w4) (a := ⟨b, 0, none⟩) (HD2.out.block b zb1)).trans q0; have zbb1 : b < w4.heap.size := Nat.lt_trans zb1 z1
  go_wp2_with fail
  refine (one_any 23 0 ByteArray.empty false (some ⟨w4.heap.size, 0, none⟩) 1 1 _).mono ?_
  rintro e w8 ⟨rfl, hb8⟩
  have HZ := Lib.hid ((below_alloc1 w4 (.cells #[.int .i64 t1.k, .string t1.tx, .int .i64 t1.op, .bool t1.fl, .slice a1 t1.subs.length c1] 24)).trans (hb8.mono (by simp))); have HNR := Lib.hid ((hb8.block w4.heap.size (by simp)).trans (heap_alloc_new w4 (.cells #[.int .i64 t1.k, .string t1.tx, .int .i64 t1.op, .bool t1.fl, .slice a1 t1.subs.length c1] 24))); clear hb8; have HR8 := Lib.hid ((HZ.out.block w0.heap.size (by omega)).trans ((HD2.out.block w0.heap.size zr).trans HR.out)); have r0 := cell_of (j := 0) HR8.out rfl; have r1 := cell_of (j := 1) HR8.out rfl; have r2 := cell_of (j := 2) HR8.out rfl; have r3 := cell_of (j := 3) HR8.out rfl; have r4 := cell_of (j := 4) HR8.out rfl; have r5 := fun i => unfrozen_of_block HR8.out i
  focus
    go_wp2
    have hr6 := set5_at (a := .int .i64 23) (b := .string ByteArray.empty) (c := .int .i64 0) (d := .bool false) (e := .slice (some ⟨w4.heap.size, 0, none⟩) 1 1) HR8.out
    have v0 := cell_of (j := 0) hr6 rfl
    have v1 := cell_of (j := 1) hr6 rfl
    have v2 := cell_of (j := 2) hr6 rfl
    have v3 := cell_of (j := 3) hr6 rfl
    have v4 := cell_of (j := 4) hr6 rfl
    have hB8 := HB1.out.trans ((HD2.out.mono HB1.out.size).trans (HZ.out.mono (Nat.le_trans HB1.out.size HD2.out.size)))
    have hz1 := HB1.out.size
    have hz8 := HZ.out.size
    have hzn := heap_lt HNR.out
    refine bodyPost_ret (v := .agg #[.int .i64 23, .string ByteArray.empty, .int .i64 0, .bool false, .slice (some ⟨w4.heap.size, 0, none⟩) 1 1]) (by simp [results, Tryz.results13, go_sem, v0, v1, v2, v3, v4]) rfl ⟨⟨_, rfl, ?_⟩, below_set5 hB8 (Nat.le_refl _)⟩
    refine subs_block ((heap_set5 (by omega)).trans HNR.out) (CellsT.keep (w := w8) (S := fun k => w1.heap.size ≤ k) (fun k hk _ => ?_) (fun k hk _ => heap_set5 (by omega)) (CellsT.one (t := t1) (((HS1.out).bel HZ.out).mono (T := fun k => w1.heap.size ≤ k) (fun k hk _ => by have hk' := hk; first | (simp at hk'; omega) | omega)))) rfl rfl ?_
    · show w0.heap.size ≤ k
      omega
    · show w0.heap.size ≤ _
      omega

set_option maxRecDepth 100000 in
set_option maxHeartbeats 4000000 in
theorem node_parens {w : World} {b : Nat} {p0 p1 p2 : Option Addr} {n0 n1 n2 : Nat} {t1 : Tr} {y1 : TypeId} {b1 : Nat} (hb : w.heap[b]? = some (.cells #[.iface y1 (.pointer (some ⟨b1, 0, none⟩)), .slice p2 0 n2, .slice p0 0 n0, .pointer none, .slice p1 0 n1, .pointer none, .string ByteArray.empty, .int .i64 0, .int .i64 0, .int .i64 0, .int .i64 0] 101)) (N1 : NodeAt w t1 y1 b1) : NodeAt w (.mk 28 ByteArray.empty 0 false [t1]) 99 b := by
  intro w0 hw
  have HB := Lib.hid ((hw.block b (heap_lt hb)).trans hb)
  have zb : b < w0.heap.size := heap_lt HB.out
  have HW := Lib.hid hw
  clear hb hw
  go_enter Tryz.func13, Tryz.ntmps13
  go_wp2_with fail
  refine (simple_no 99 (by simp) _ _).mono ?_
  rintro e w1 ⟨rfl, hb1⟩
  have HR := Lib.hid ((hb1.block w0.heap.size (by simp)).trans (heap_alloc_new w0 (.cells #[.int .i64 0, .string ByteArray.empty, .int .i64 0, .bool false, .slice none 0 0] 24)))
  have HB1 := Lib.hid ((below_alloc1 w0 (.cells #[.int .i64 0, .string ByteArray.empty, .int .i64 0, .bool false, .slice none 0 0] 24)).trans (hb1.mono (by simp)))
  have zr : w0.heap.size < w1.heap.size := heap_lt HR.out
  have zb1 : b < w1.heap.size := by omega
  have q0 := (World.cell?_of_block (w := w0) (w' := w1) (a := ⟨b, 0, none⟩) (HB1.out.block b zb)).trans (cell_of (j := 0) HB.out rfl)
  have HD1 := Lib.hid ((below_alloc1 w1 (.cells #[.int .i64 0, .string ByteArray.empty, .int .i64 0, .bool false, .slice none 0 0] 24)))
  have HW1 := Lib.hid (HW.out.trans ((HB1.out.mono HW.out.size).trans (HD1.out.mono (Nat.le_trans HW.out.size HB1.out.size))))
  clear hb1
  go_wp2_with fail
  refine (N1 _ HW1.out).mono ?_
  rintro e w4 ⟨⟨u1, rfl, hs1⟩, hb4⟩
  obtain ⟨a1, c1, rfl, hc1⟩ := hs1.form; have HS1 := Lib.hid hs1; clear hs1; have HD2 := Lib.hid (HD1.out.trans (hb4.mono HD1.out.size)); have HK2 := Lib.hid hb4; clear hb4; have z1 : w1.heap.size < w4.heap.size := Nat.lt_of_lt_of_le (by simp) HK2.out.size; have q0_1 := (World.cell?_of_block (w := w1) (w' := w4) (a := ⟨b, 0, none⟩) (HD2.out.block b zb1)).trans q0; have zbb1 : b < w4.heap.size := Nat.lt_trans zb1 z1
  go_wp2_with fail
  refine (one_any 28 0 ByteArray.empty false (some ⟨w4.heap.size, 0, none⟩) 1 1 _).mono ?_
  rintro e w8 ⟨rfl, hb8⟩
  have HZ := Lib.hid ((below_alloc1 w4 (.cells #[.int .i64 t1.k, .string t1.tx, .int .i64 t1.op, .bool t1.fl, .slice a1 t1.subs.length c1] 24)).trans (hb8.mono (by simp))); have HNR := Lib.hid ((hb8.block w4.heap.size (by simp)).trans (heap_alloc_new w4 (.cells #[.int .i64 t1.k, .string t1.tx, .int .i64 t1.op, .bool t1.fl, .slice a1 t1.subs.length c1] 24))); clear hb8; have HR8 := Lib.hid ((HZ.out.block w0.heap.size (by omega)).trans ((HD2.out.block w0.heap.size zr).trans HR.out)); have r0 := cell_of (j := 0) HR8.out rfl; have r1 := cell_of (j := 1) HR8.out rfl; have r2 := cell_of (j := 2) HR8.out rfl; have r3 := cell_of (j := 3) HR8.out rfl; have r4 := cell_of (j := 4) HR8.out rfl; have r5 := fun i => unfrozen_of_block HR8.out i
  focus
    go_wp2
    have hr6 := set5_at (a := .int .i64 28) (b := .string ByteArray.empty) (c := .int .i64 0) (d := .bool false) (e := .slice (some ⟨w4.heap.size, 0, none⟩) 1 1) HR8.out
    have v0 := cell_of (j := 0) hr6 rfl
    have v1 := cell_of (j := 1) hr6 rfl
    have v2 := cell_of (j := 2) hr6 rfl
    have v3 := cell_of (j := 3) hr6 rfl
    have v4 := cell_of (j := 4) hr6 rfl
    have hB8 := HB1.out.trans ((HD2.out.mono HB1.out.size).trans (HZ.out.mono (Nat.le_trans HB1.out.size HD2.out.size)))
    have hz1 := HB1.out.size
    have hz8 := HZ.out.size
    have hzn := heap_lt HNR.out
    refine bodyPost_ret (v := .agg #[.int .i64 28, .string ByteArray.empty, .int .i64 0, .bool false, .slice (some ⟨w4.heap.size, 0, none⟩) 1 1]) (by simp [results, Tryz.results13, go_sem, v0, v1, v2, v3, v4]) rfl ⟨⟨_, rfl, ?_⟩, below_set5 hB8 (Nat.le_refl _)⟩
    refine subs_block ((heap_set5 (by omega)).trans HNR.out) (CellsT.keep (w := w8) (S := fun k => w1.heap.size ≤ k) (fun k hk _ => ?_) (fun k hk _ => heap_set5 (by omega)) (CellsT.one (t := t1) (((HS1.out).bel HZ.out).mono (T := fun k => w1.heap.size ≤ k) (fun k hk _ => by have hk' := hk; first | (simp at hk'; omega) | omega)))) rfl rfl ?_
    · show w0.heap.size ≤ k
      omega
    · show w0.heap.size ≤ _
      omega

end Go.Proofs.YtlgajopaokjjaaaGreatFmt
