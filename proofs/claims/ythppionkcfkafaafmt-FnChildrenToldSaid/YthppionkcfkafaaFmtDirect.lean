/-
  parser.DirectChildren: what is right below a node, as a list. Conditions: none.
-/
import Derived.Test.YthppionkcfkafaaFmtTrees
import Derived.Test.YthppionkcfkafaaFmtIfn
namespace Go.Proofs.YthppionkcfkafaaFmt
open Go.ChangeShapes Go.WideShapes Go.ChangeAt Go.RowKit Go.Joins
attribute [local go_sem] ta_Apply ta_ApplyBrace ta_Array ta_ArrayComp ta_Assert ta_Binary ta_Conditional ta_DesugaredObject ta_Dollar ta_Error ta_Function ta_Import ta_ImportBin ta_ImportStr ta_InSuper ta_Index ta_LiteralBoolean ta_LiteralNull ta_LiteralNumber ta_LiteralString ta_Local ta_Object ta_ObjectComp ta_Parens ta_Self ta_Slice ta_SuperIndex ta_Unary ta_Var ne_nil1 ne_nil0 eq_nil1 eq_nil0

/-- What is right below a node and in the same surroundings. -/
def directF (t : Tr) : List Tr := if t.k = 13 then t.subs.take 1 else if t.k = 18 then [] else t.subs
theorem nodeRow_nil (w : World) (a : Option Addr) (c : Nat) : NodeRow w [] (.slice a 0 c) := ⟨0, 0, c, a, rfl, Nat.zero_le _, fun h => absurd h (by simp), fun i t h => by simp at h⟩
theorem nodeRow_of {w : World} {g n : Nat} {cs : Array Value} {T : TypeId} {l : List Tr} (hb : w.heap[g]? = some (.cells cs T)) (h : ∀ (i : Nat) (t : Tr), l[i]? = some t → ∃ y c, cs[i]? = some (Value.iface y (.pointer (some ⟨c, 0, none⟩))) ∧ NodeAt w t y c) (hn : l.length = n) : NodeRow w l (.slice (some ⟨g, 0, none⟩) n n) := by
  subst hn
  refine ⟨g, 0, l.length, _, rfl, Nat.le_refl _, fun _ => rfl, fun i t ht => ?_⟩
  obtain ⟨y, c, hc, hn⟩ := h i t ht
  exact ⟨y, c, by rw [Nat.zero_add]; exact cell_of hb hc, hn⟩
theorem nodeRow1 {w : World} {g : Nat} {T : TypeId} {t1 : Tr} {y1 b1 : Nat} (hb : w.heap[g]? = some (.cells #[.iface y1 (.pointer (some ⟨b1, 0, none⟩))] T)) (h1 : NodeAt w t1 y1 b1) : NodeRow w [t1] (.slice (some ⟨g, 0, none⟩) 1 1) :=
  nodeRow_of hb (fun i t ht => by
    match i, ht with
    | 0, ht => obtain rfl : t1 = t := by simpa using ht
               exact ⟨y1, b1, rfl, h1⟩
    | i + 1, ht => simp at ht) rfl
theorem nodeRow2 {w : World} {g : Nat} {T : TypeId} {t1 t2 : Tr} {y1 b1 y2 b2 : Nat} (hb : w.heap[g]? = some (.cells #[.iface y1 (.pointer (some ⟨b1, 0, none⟩)), .iface y2 (.pointer (some ⟨b2, 0, none⟩))] T)) (h1 : NodeAt w t1 y1 b1) (h2 : NodeAt w t2 y2 b2) : NodeRow w [t1, t2] (.slice (some ⟨g, 0, none⟩) 2 2) :=
  nodeRow_of hb (fun i t ht => by
    match i, ht with
    | 0, ht => obtain rfl : t1 = t := by simpa using ht
               exact ⟨y1, b1, rfl, h1⟩
    | 1, ht => obtain rfl : t2 = t := by simpa using ht
               exact ⟨y2, b2, rfl, h2⟩
    | i + 2, ht => simp at ht) rfl
theorem nodeRow3 {w : World} {g : Nat} {T : TypeId} {t1 t2 t3 : Tr} {y1 b1 y2 b2 y3 b3 : Nat} (hb : w.heap[g]? = some (.cells #[.iface y1 (.pointer (some ⟨b1, 0, none⟩)), .iface y2 (.pointer (some ⟨b2, 0, none⟩)), .iface y3 (.pointer (some ⟨b3, 0, none⟩))] T)) (h1 : NodeAt w t1 y1 b1) (h2 : NodeAt w t2 y2 b2) (h3 : NodeAt w t3 y3 b3) : NodeRow w [t1, t2, t3] (.slice (some ⟨g, 0, none⟩) 3 3) :=
  nodeRow_of hb (fun i t ht => by
    match i, ht with
    | 0, ht => obtain rfl : t1 = t := by simpa using ht
               exact ⟨y1, b1, rfl, h1⟩
    | 1, ht => obtain rfl : t2 = t := by simpa using ht
               exact ⟨y2, b2, rfl, h2⟩
    | 2, ht => obtain rfl : t3 = t := by simpa using ht
               exact ⟨y3, b3, rfl, h3⟩
    | i + 3, ht => simp at ht) rfl
/-- A list of nodes of package ast. -/
def RowBack (l : List Tr) (e : Ending) (w' : World) : Prop := ∃ v, e = .returned v ∧ NodeRow w' l v

set_option maxRecDepth 100000 in
set_option maxHeartbeats 4000000 in
theorem DirectChildren_LiteralNull (v : Value) (w : World) : Calls Tryf.prog 36 #[.iface 142 v] w fun e w' => e = .returned (.slice none 0 0) ∧ w = w' := by
  go_enter Tryf.func36, Tryf.ntmps36
  go_wp2
  go_ret
  exact ⟨rfl, rfl⟩

set_option maxRecDepth 100000 in
set_option maxHeartbeats 4000000 in
theorem DirectChildren_LiteralBoolean (v : Value) (w : World) : Calls Tryf.prog 36 #[.iface 143 v] w fun e w' => e = .returned (.slice none 0 0) ∧ w = w' := by
  go_enter Tryf.func36, Tryf.ntmps36
  go_wp2
  go_ret
  exact ⟨rfl, rfl⟩

set_option maxRecDepth 100000 in
set_option maxHeartbeats 4000000 in
theorem DirectChildren_LiteralNumber (v : Value) (w : World) : Calls Tryf.prog 36 #[.iface 146 v] w fun e w' => e = .returned (.slice none 0 0) ∧ w = w' := by
  go_enter Tryf.func36, Tryf.ntmps36
  go_wp2
  go_ret
  exact ⟨rfl, rfl⟩

set_option maxRecDepth 100000 in
set_option maxHeartbeats 4000000 in
theorem DirectChildren_LiteralString (v : Value) (w : World) : Calls Tryf.prog 36 #[.iface 149 v] w fun e w' => e = .returned (.slice none 0 0) ∧ w = w' := by
  go_enter Tryf.func36, Tryf.ntmps36
  go_wp2
  go_ret
  exact ⟨rfl, rfl⟩

set_option maxRecDepth 100000 in
set_option maxHeartbeats 4000000 in
theorem DirectChildren_Self (v : Value) (w : World) : Calls Tryf.prog 36 #[.iface 153 v] w fun e w' => e = .returned (.slice none 0 0) ∧ w = w' := by
  go_enter Tryf.func36, Tryf.ntmps36
  go_wp2
  go_ret
  exact ⟨rfl, rfl⟩

set_option maxRecDepth 100000 in
set_option maxHeartbeats 4000000 in
theorem DirectChildren_Dollar (v : Value) (w : World) : Calls Tryf.prog 36 #[.iface 154 v] w fun e w' => e = .returned (.slice none 0 0) ∧ w = w' := by
  go_enter Tryf.func36, Tryf.ntmps36
  go_wp2
  go_ret
  exact ⟨rfl, rfl⟩

set_option maxRecDepth 100000 in
set_option maxHeartbeats 4000000 in
theorem DirectChildren_Var (v : Value) (w : World) : Calls Tryf.prog 36 #[.iface 155 v] w fun e w' => e = .returned (.slice none 0 0) ∧ w = w' := by
  go_enter Tryf.func36, Tryf.ntmps36
  go_wp2
  go_ret
  exact ⟨rfl, rfl⟩

set_option maxRecDepth 100000 in
set_option maxHeartbeats 4000000 in
theorem DirectChildren_Array (v : Value) (w : World) : Calls Tryf.prog 36 #[.iface 94 v] w fun e w' => e = .returned (.slice none 0 0) ∧ w = w' := by
  go_enter Tryf.func36, Tryf.ntmps36
  go_wp2
  go_ret
  exact ⟨rfl, rfl⟩

set_option maxRecDepth 100000 in
set_option maxHeartbeats 4000000 in
theorem DirectChildren_unary {w : World} {b : Nat} {op : Int} {p0 p1 : Option Addr} {n0 n1 : Nat} {t1 : Tr} {y1 : TypeId} {b1 : Nat} (hb : w.heap[b]? = some (.cells #[.iface y1 (.pointer (some ⟨b1, 0, none⟩)), .slice p0 0 n0, .pointer none, .slice p1 0 n1, .pointer none, .string ByteArray.empty, .int .i64 0, .int .i64 0, .int .i64 0, .int .i64 0, .int .i64 op] 69)) (N1 : NodeAt w t1 y1 b1) :
    Calls Tryf.prog 36 #[.iface 52 (.pointer (some ⟨b, 0, none⟩))] w fun e w' => RowBack [t1] e w' ∧ Below w.heap.size w w' := by
  have q0 := cell_of (j := 0) hb rfl
  have zb := heap_lt' hb
  have M1 := Lib.hid N1; clear N1
  clear hb
  go_enter Tryf.func36, Tryf.ntmps36
  go_wp2
  focus
    go_ret
    have hB := (below_alloc1 w (.cells #[.iface y1 (.pointer (some ⟨b1, 0, none⟩))] 40))
    exact ⟨⟨_, rfl, nodeRow1 (heap_alloc_new w _) (M1.out.bel hB)⟩, hB⟩

set_option maxRecDepth 100000 in
set_option maxHeartbeats 4000000 in
theorem DirectChildren_error {w : World} {b : Nat} {p0 p1 : Option Addr} {n0 n1 : Nat} {t1 : Tr} {y1 : TypeId} {b1 : Nat} (hb : w.heap[b]? = some (.cells #[.iface y1 (.pointer (some ⟨b1, 0, none⟩)), .slice p0 0 n0, .pointer none, .slice p1 0 n1, .pointer none, .string ByteArray.empty, .int .i64 0, .int .i64 0, .int .i64 0, .int .i64 0] 122)) (N1 : NodeAt w t1 y1 b1) :
    Calls Tryf.prog 36 #[.iface 120 (.pointer (some ⟨b, 0, none⟩))] w fun e w' => RowBack [t1] e w' ∧ Below w.heap.size w w' := by
  have q0 := cell_of (j := 0) hb rfl
  have zb := heap_lt' hb
  have M1 := Lib.hid N1; clear N1
  clear hb
  go_enter Tryf.func36, Tryf.ntmps36
  go_wp2
  focus
    go_ret
    have hB := (below_alloc1 w (.cells #[.iface y1 (.pointer (some ⟨b1, 0, none⟩))] 40))
    exact ⟨⟨_, rfl, nodeRow1 (heap_alloc_new w _) (M1.out.bel hB)⟩, hB⟩

set_option maxRecDepth 100000 in
set_option maxHeartbeats 4000000 in
theorem DirectChildren_parens {w : World} {b : Nat} {p0 p1 p2 : Option Addr} {n0 n1 n2 : Nat} {t1 : Tr} {y1 : TypeId} {b1 : Nat} (hb : w.heap[b]? = some (.cells #[.iface y1 (.pointer (some ⟨b1, 0, none⟩)), .slice p2 0 n2, .slice p0 0 n0, .pointer none, .slice p1 0 n1, .pointer none, .string ByteArray.empty, .int .i64 0, .int .i64 0, .int .i64 0, .int .i64 0] 131)) (N1 : NodeAt w t1 y1 b1) :
    Calls Tryf.prog 36 #[.iface 129 (.pointer (some ⟨b, 0, none⟩))] w fun e w' => RowBack [t1] e w' ∧ Below w.heap.size w w' := by
  have q0 := cell_of (j := 0) hb rfl
  have zb := heap_lt' hb
  have M1 := Lib.hid N1; clear N1
  clear hb
  go_enter Tryf.func36, Tryf.ntmps36
  go_wp2
  focus
    go_ret
    have hB := (below_alloc1 w (.cells #[.iface y1 (.pointer (some ⟨b1, 0, none⟩))] 40))
    exact ⟨⟨_, rfl, nodeRow1 (heap_alloc_new w _) (M1.out.bel hB)⟩, hB⟩

set_option maxRecDepth 100000 in
set_option maxHeartbeats 4000000 in
theorem DirectChildren_binary {w : World} {b : Nat} {op : Int} {p0 p1 p2 : Option Addr} {n0 n1 n2 : Nat} {t1 t2 : Tr} {y1 y2 : TypeId} {b1 b2 : Nat} (hb : w.heap[b]? = some (.cells #[.iface y2 (.pointer (some ⟨b2, 0, none⟩)), .iface y1 (.pointer (some ⟨b1, 0, none⟩)), .slice p2 0 n2, .slice p0 0 n0, .pointer none, .slice p1 0 n1, .pointer none, .string ByteArray.empty, .int .i64 0, .int .i64 0, .int .i64 0, .int .i64 0, .int .i64 op] 73)) (N1 : NodeAt w t1 y1 b1) (N2 : NodeAt w t2 y2 b2) :
    Calls Tryf.prog 36 #[.iface 70 (.pointer (some ⟨b, 0, none⟩))] w fun e w' => RowBack [t1, t2] e w' ∧ Below w.heap.size w w' := by
  have q0 := cell_of (j := 0) hb rfl
  have q1 := cell_of (j := 1) hb rfl
  have zb := heap_lt' hb
  have M1 := Lib.hid N1; clear N1
  have M2 := Lib.hid N2; clear N2
  clear hb
  go_enter Tryf.func36, Tryf.ntmps36
  go_wp2
  go_region
  all_goals
    go_wp2
    go_ret
    have hB := (below_alloc1 w (.cells #[.iface y1 (.pointer (some ⟨b1, 0, none⟩)), .iface y2 (.pointer (some ⟨b2, 0, none⟩))] 40)).drew
    exact ⟨⟨_, rfl, nodeRow2 (heap_alloc_new w _) (M1.out.bel hB) (M2.out.bel hB)⟩, hB⟩

set_option maxRecDepth 100000 in
set_option maxHeartbeats 4000000 in
theorem DirectChildren_brace {w : World} {b : Nat} {p0 p1 : Option Addr} {n0 n1 : Nat} {t1 t2 : Tr} {y1 y2 : TypeId} {b1 b2 : Nat} (hb : w.heap[b]? = some (.cells #[.iface y1 (.pointer (some ⟨b1, 0, none⟩)), .iface y2 (.pointer (some ⟨b2, 0, none⟩)), .slice p0 0 n0, .pointer none, .slice p1 0 n1, .pointer none, .string ByteArray.empty, .int .i64 0, .int .i64 0, .int .i64 0, .int .i64 0] 85)) (N1 : NodeAt w t1 y1 b1) (N2 : NodeAt w t2 y2 b2) :
    Calls Tryf.prog 36 #[.iface 83 (.pointer (some ⟨b, 0, none⟩))] w fun e w' => RowBack [t1, t2] e w' ∧ Below w.heap.size w w' := by
  have q0 := cell_of (j := 0) hb rfl
  have q1 := cell_of (j := 1) hb rfl
  have zb := heap_lt' hb
  have M1 := Lib.hid N1; clear N1
  have M2 := Lib.hid N2; clear N2
  clear hb
  go_enter Tryf.func36, Tryf.ntmps36
  go_wp2
  go_region
  all_goals
    go_wp2
    go_ret
    have hB := (below_alloc1 w (.cells #[.iface y1 (.pointer (some ⟨b1, 0, none⟩)), .iface y2 (.pointer (some ⟨b2, 0, none⟩))] 40)).drew
    exact ⟨⟨_, rfl, nodeRow2 (heap_alloc_new w _) (M1.out.bel hB) (M2.out.bel hB)⟩, hB⟩

set_option maxRecDepth 100000 in
set_option maxHeartbeats 4000000 in
theorem DirectChildren_index {w : World} {b : Nat} {p0 p1 p2 p3 : Option Addr} {n0 n1 n2 n3 : Nat} {t1 t2 : Tr} {y1 y2 : TypeId} {b1 b2 : Nat} (hb : w.heap[b]? = some (.cells #[.iface y1 (.pointer (some ⟨b1, 0, none⟩)), .iface y2 (.pointer (some ⟨b2, 0, none⟩)), .slice p2 0 n2, .slice p3 0 n3, .pointer none, .slice p0 0 n0, .pointer none, .slice p1 0 n1, .pointer none, .string ByteArray.empty, .int .i64 0, .int .i64 0, .int .i64 0, .int .i64 0] 89)) (N1 : NodeAt w t1 y1 b1) (N2 : NodeAt w t2 y2 b2) :
    Calls Tryf.prog 36 #[.iface 86 (.pointer (some ⟨b, 0, none⟩))] w fun e w' => RowBack [t1, t2] e w' ∧ Below w.heap.size w w' := by
  have q0 := cell_of (j := 0) hb rfl
  have q1 := cell_of (j := 1) hb rfl
  have q4 := cell_of (j := 4) hb rfl
  have zb := heap_lt' hb
  have M1 := Lib.hid N1; clear N1
  have M2 := Lib.hid N2; clear N2
  clear hb
  go_enter Tryf.func36, Tryf.ntmps36
  go_wp2
  go_region
  all_goals
    go_wp2
    go_ret
    have hB := (below_alloc1 w (.cells #[.iface y1 (.pointer (some ⟨b1, 0, none⟩)), .iface y2 (.pointer (some ⟨b2, 0, none⟩))] 40)).drew
    exact ⟨⟨_, rfl, nodeRow2 (heap_alloc_new w _) (M1.out.bel hB) (M2.out.bel hB)⟩, hB⟩

set_option maxRecDepth 100000 in
set_option maxHeartbeats 4000000 in
theorem DirectChildren_if2 {w : World} {b : Nat} {p0 p1 p2 p3 : Option Addr} {n0 n1 n2 n3 : Nat} {t1 t2 : Tr} {y1 y2 : TypeId} {b1 b2 : Nat} (hb : w.heap[b]? = some (.cells #[.iface y1 (.pointer (some ⟨b1, 0, none⟩)), .iface y2 (.pointer (some ⟨b2, 0, none⟩)), .nilIface, .slice p2 0 n2, .slice p3 0 n3, .slice p0 0 n0, .pointer none, .slice p1 0 n1, .pointer none, .string ByteArray.empty, .int .i64 0, .int .i64 0, .int .i64 0, .int .i64 0] 76)) (N1 : NodeAt w t1 y1 b1) (N2 : NodeAt w t2 y2 b2) :
    Calls Tryf.prog 36 #[.iface 74 (.pointer (some ⟨b, 0, none⟩))] w fun e w' => RowBack [t1, t2] e w' ∧ Below w.heap.size w w' := by
  have q0 := cell_of (j := 0) hb rfl
  have q1 := cell_of (j := 1) hb rfl
  have q2 := cell_of (j := 2) hb rfl
  have zb := heap_lt' hb
  have M1 := Lib.hid N1; clear N1
  have M2 := Lib.hid N2; clear N2
  clear hb
  go_enter Tryf.func36, Tryf.ntmps36
  go_wp2
  go_region
  all_goals
    go_wp2
    go_ret
    have hB := (below_alloc1 w (.cells #[.iface y1 (.pointer (some ⟨b1, 0, none⟩)), .iface y2 (.pointer (some ⟨b2, 0, none⟩))] 40)).drew
    exact ⟨⟨_, rfl, nodeRow2 (heap_alloc_new w _) (M1.out.bel hB) (M2.out.bel hB)⟩, hB⟩

set_option maxRecDepth 100000 in
set_option maxHeartbeats 4000000 in
theorem DirectChildren_if3 {w : World} {b : Nat} {p0 p1 p2 p3 : Option Addr} {n0 n1 n2 n3 : Nat} {t1 t2 t3 : Tr} {y1 y2 y3 : TypeId} {b1 b2 b3 : Nat} (hb : w.heap[b]? = some (.cells #[.iface y1 (.pointer (some ⟨b1, 0, none⟩)), .iface y2 (.pointer (some ⟨b2, 0, none⟩)), .iface y3 (.pointer (some ⟨b3, 0, none⟩)), .slice p2 0 n2, .slice p3 0 n3, .slice p0 0 n0, .pointer none, .slice p1 0 n1, .pointer none, .string ByteArray.empty, .int .i64 0, .int .i64 0, .int .i64 0, .int .i64 0] 76)) (N1 : NodeAt w t1 y1 b1) (N2 : NodeAt w t2 y2 b2) (N3 : NodeAt w t3 y3 b3) :
    Calls Tryf.prog 36 #[.iface 74 (.pointer (some ⟨b, 0, none⟩))] w fun e w' => RowBack [t1, t2, t3] e w' ∧ Below w.heap.size w w' := by
  have q0 := cell_of (j := 0) hb rfl
  have q1 := cell_of (j := 1) hb rfl
  have q2 := cell_of (j := 2) hb rfl
  have zb := heap_lt' hb
  have M1 := Lib.hid N1; clear N1
  have M2 := Lib.hid N2; clear N2
  have M3 := Lib.hid N3; clear N3
  clear hb
  go_enter Tryf.func36, Tryf.ntmps36
  go_wp2
  go_region
  all_goals
    go_wp2
    go_ret
    have hB := (below_alloc1 w (.cells #[.iface y1 (.pointer (some ⟨b1, 0, none⟩)), .iface y2 (.pointer (some ⟨b2, 0, none⟩)), .iface y3 (.pointer (some ⟨b3, 0, none⟩))] 40)).drew
    exact ⟨⟨_, rfl, nodeRow3 (heap_alloc_new w _) (M1.out.bel hB) (M2.out.bel hB) (M3.out.bel hB)⟩, hB⟩

set_option maxRecDepth 100000 in
set_option maxHeartbeats 4000000 in
theorem DirectChildren_apply {w : World} {b : Nat} {a : Option Addr} {n cap : Nat} {tc : Bool} {p0 p1 p2 p3 p4 p5 : Option Addr} {n0 n1 n2 n3 n4 n5 : Nat} {t1 : Tr} {y1 : TypeId} {b1 : Nat} (hb : w.heap[b]? = some (.cells #[.iface y1 (.pointer (some ⟨b1, 0, none⟩)), .slice p2 0 n2, .slice a n cap, .slice p3 0 n3, .slice p4 0 n4, .slice p5 0 n5, .slice p0 0 n0, .pointer none, .slice p1 0 n1, .pointer none, .string ByteArray.empty, .int .i64 0, .int .i64 0, .int .i64 0, .int .i64 0, .bool tc, .bool false] 139)) (N1 : NodeAt w t1 y1 b1) :
    Calls Tryf.prog 36 #[.iface 81 (.pointer (some ⟨b, 0, none⟩))] w fun e w' => RowBack [t1] e w' ∧ Below w.heap.size w w' := by
  have q0 := cell_of (j := 0) hb rfl
  have zb := heap_lt' hb
  have M1 := Lib.hid N1; clear N1
  clear hb
  go_enter Tryf.func36, Tryf.ntmps36
  go_wp2
  focus
    go_ret
    have hB := (below_alloc1 w (.cells #[.iface y1 (.pointer (some ⟨b1, 0, none⟩))] 40))
    exact ⟨⟨_, rfl, nodeRow1 (heap_alloc_new w _) (M1.out.bel hB)⟩, hB⟩

end Go.Proofs.YthppionkcfkafaaFmt
