/-
  impl.tree, of single nodes, of names behind an expression, of conditions. Conditions: spec.Tree's.
-/
import Derived.Test.YtlgajopaokjjaaaGreatFmtImplTree
namespace Go.Proofs.YtlgajopaokjjaaaGreatFmt
open Go.ChangeShapes Go.WideShapes Go.ChangeAt Go.RowKit Go.Joins

theorem subs_nil {w : World} {S : Nat → Prop} {u : Value} (h : Subs w S [] u) : ∃ a cap, u = .slice a 0 cap := by
  obtain ⟨a, cap, e, _⟩ := h.form
  exact ⟨a, cap, e⟩
theorem alloc_at (w : World) (o : Obj) (g : Nat) (hg : g = w.heap.size) : (w.alloc o).heap[g]? = some o := by subst hg; exact heap_alloc_new w o
theorem leaf_null (a : Option Addr) (cap : Nat) (w : World) :
    Calls Tryz.prog 20 #[.agg #[.int .i64 1, .string ByteArray.empty, .int .i64 0, .bool false, .slice a 0 cap]] w fun e w' => AstBack w (.mk 1 ByteArray.empty 0 false []) e w' ∧ Below w.heap.size w w' := by
  go_enter Tryz.func20, Tryz.ntmps20
  go_wp2
  go_ret
  exact ⟨⟨_, _, rfl, .null _ none none 0 0 ⟨by simp, by simp⟩ (alloc_at _ _ _ (by simp))⟩, below_alloc2 _ _ _⟩
set_option maxRecDepth 100000 in
theorem tree_null : TreeOk (.mk 1 ByteArray.empty 0 false []) := by
  intro S w u hs
  obtain ⟨a, cap, rfl⟩ := subs_nil hs
  clear hs
  show Calls Tryz.prog 11 #[.agg #[.int .i64 1, .string ByteArray.empty, .int .i64 0, .bool false, .slice a 0 cap]] w _
  have hB := below_alloc1 w (.cells #[.int .i64 1, .string ByteArray.empty, .int .i64 0, .bool false, .slice a 0 cap] 24)
  go_enter Tryz.func11, Tryz.ntmps11
  go_wp2_with fail
  refine (leaf_null a cap _).mono ?_
  rintro e w4 ⟨⟨y1, b1, rfl, hA1⟩, hb1⟩
  have HA1 := Lib.hid (hA1.mono (T := fun k => w.heap.size ≤ k ∧ k < w4.heap.size) (fun k hk _ => ⟨by have := hk.1; simp at this; omega, hk.2⟩)); clear hA1
  have HB4 := Lib.hid (hB.trans (hb1.mono hB.size)); clear hb1
  go_wp2
  go_ret
  exact ⟨⟨_, _, rfl, HA1.out⟩, HB4.out⟩

theorem leaf_boolean (fl : Bool) (a : Option Addr) (cap : Nat) (w : World) :
    Calls Tryz.prog 20 #[.agg #[.int .i64 2, .string ByteArray.empty, .int .i64 0, .bool fl, .slice a 0 cap]] w fun e w' => AstBack w (.mk 2 ByteArray.empty 0 fl []) e w' ∧ Below w.heap.size w w' := by
  go_enter Tryz.func20, Tryz.ntmps20
  go_wp2
  go_ret
  exact ⟨⟨_, _, rfl, .boolean _ fl none none 0 0 ⟨by simp, by simp⟩ (alloc_at _ _ _ (by simp))⟩, below_alloc2 _ _ _⟩
set_option maxRecDepth 100000 in
theorem tree_boolean (fl : Bool) : TreeOk (.mk 2 ByteArray.empty 0 fl []) := by
  intro S w u hs
  obtain ⟨a, cap, rfl⟩ := subs_nil hs
  clear hs
  show Calls Tryz.prog 11 #[.agg #[.int .i64 2, .string ByteArray.empty, .int .i64 0, .bool fl, .slice a 0 cap]] w _
  have hB := below_alloc1 w (.cells #[.int .i64 2, .string ByteArray.empty, .int .i64 0, .bool fl, .slice a 0 cap] 24)
  go_enter Tryz.func11, Tryz.ntmps11
  go_wp2_with fail
  refine (leaf_boolean fl a cap _).mono ?_
  rintro e w4 ⟨⟨y1, b1, rfl, hA1⟩, hb1⟩
  have HA1 := Lib.hid (hA1.mono (T := fun k => w.heap.size ≤ k ∧ k < w4.heap.size) (fun k hk _ => ⟨by have := hk.1; simp at this; omega, hk.2⟩)); clear hA1
  have HB4 := Lib.hid (hB.trans (hb1.mono hB.size)); clear hb1
  go_wp2
  go_ret
  exact ⟨⟨_, _, rfl, HA1.out⟩, HB4.out⟩

theorem leaf_number (tx : ByteArray) (a : Option Addr) (cap : Nat) (w : World) :
    Calls Tryz.prog 20 #[.agg #[.int .i64 3, .string tx, .int .i64 0, .bool false, .slice a 0 cap]] w fun e w' => AstBack w (.mk 3 tx 0 false []) e w' ∧ Below w.heap.size w w' := by
  go_enter Tryz.func20, Tryz.ntmps20
  go_wp2
  go_ret
  exact ⟨⟨_, _, rfl, .number _ tx none none 0 0 ⟨by simp, by simp⟩ (alloc_at _ _ _ (by simp))⟩, below_alloc2 _ _ _⟩
set_option maxRecDepth 100000 in
theorem tree_number (tx : ByteArray) : TreeOk (.mk 3 tx 0 false []) := by
  intro S w u hs
  obtain ⟨a, cap, rfl⟩ := subs_nil hs
  clear hs
  show Calls Tryz.prog 11 #[.agg #[.int .i64 3, .string tx, .int .i64 0, .bool false, .slice a 0 cap]] w _
  have hB := below_alloc1 w (.cells #[.int .i64 3, .string tx, .int .i64 0, .bool false, .slice a 0 cap] 24)
  go_enter Tryz.func11, Tryz.ntmps11
  go_wp2_with fail
  refine (leaf_number tx a cap _).mono ?_
  rintro e w4 ⟨⟨y1, b1, rfl, hA1⟩, hb1⟩
  have HA1 := Lib.hid (hA1.mono (T := fun k => w.heap.size ≤ k ∧ k < w4.heap.size) (fun k hk _ => ⟨by have := hk.1; simp at this; omega, hk.2⟩)); clear hA1
  have HB4 := Lib.hid (hB.trans (hb1.mono hB.size)); clear hb1
  go_wp2
  go_ret
  exact ⟨⟨_, _, rfl, HA1.out⟩, HB4.out⟩

theorem leaf_str (tx : ByteArray) (op : Int) (a : Option Addr) (cap : Nat) (w : World) :
    Calls Tryz.prog 20 #[.agg #[.int .i64 4, .string tx, .int .i64 op, .bool false, .slice a 0 cap]] w fun e w' => AstBack w (.mk 4 tx op false []) e w' ∧ Below w.heap.size w w' := by
  go_enter Tryz.func20, Tryz.ntmps20
  go_wp2
  go_ret
  exact ⟨⟨_, _, rfl, .str _ tx op none none 0 0 ⟨by simp, by simp⟩ (alloc_at _ _ _ (by simp))⟩, below_alloc2 _ _ _⟩
set_option maxRecDepth 100000 in
theorem tree_str (tx : ByteArray) (op : Int) : TreeOk (.mk 4 tx op false []) := by
  intro S w u hs
  obtain ⟨a, cap, rfl⟩ := subs_nil hs
  clear hs
  show Calls Tryz.prog 11 #[.agg #[.int .i64 4, .string tx, .int .i64 op, .bool false, .slice a 0 cap]] w _
  have hB := below_alloc1 w (.cells #[.int .i64 4, .string tx, .int .i64 op, .bool false, .slice a 0 cap] 24)
  go_enter Tryz.func11, Tryz.ntmps11
  go_wp2_with fail
  refine (leaf_str tx op a cap _).mono ?_
  rintro e w4 ⟨⟨y1, b1, rfl, hA1⟩, hb1⟩
  have HA1 := Lib.hid (hA1.mono (T := fun k => w.heap.size ≤ k ∧ k < w4.heap.size) (fun k hk _ => ⟨by have := hk.1; simp at this; omega, hk.2⟩)); clear hA1
  have HB4 := Lib.hid (hB.trans (hb1.mono hB.size)); clear hb1
  go_wp2
  go_ret
  exact ⟨⟨_, _, rfl, HA1.out⟩, HB4.out⟩

theorem leaf_self (a : Option Addr) (cap : Nat) (w : World) :
    Calls Tryz.prog 20 #[.agg #[.int .i64 5, .string ByteArray.empty, .int .i64 0, .bool false, .slice a 0 cap]] w fun e w' => AstBack w (.mk 5 ByteArray.empty 0 false []) e w' ∧ Below w.heap.size w w' := by
  go_enter Tryz.func20, Tryz.ntmps20
  go_wp2
  go_ret
  exact ⟨⟨_, _, rfl, .self _ none none 0 0 ⟨by simp, by simp⟩ (alloc_at _ _ _ (by simp))⟩, below_alloc2 _ _ _⟩
set_option maxRecDepth 100000 in
theorem tree_self : TreeOk (.mk 5 ByteArray.empty 0 false []) := by
  intro S w u hs
  obtain ⟨a, cap, rfl⟩ := subs_nil hs
  clear hs
  show Calls Tryz.prog 11 #[.agg #[.int .i64 5, .string ByteArray.empty, .int .i64 0, .bool false, .slice a 0 cap]] w _
  have hB := below_alloc1 w (.cells #[.int .i64 5, .string ByteArray.empty, .int .i64 0, .bool false, .slice a 0 cap] 24)
  go_enter Tryz.func11, Tryz.ntmps11
  go_wp2_with fail
  refine (leaf_self a cap _).mono ?_
  rintro e w4 ⟨⟨y1, b1, rfl, hA1⟩, hb1⟩
  have HA1 := Lib.hid (hA1.mono (T := fun k => w.heap.size ≤ k ∧ k < w4.heap.size) (fun k hk _ => ⟨by have := hk.1; simp at this; omega, hk.2⟩)); clear hA1
  have HB4 := Lib.hid (hB.trans (hb1.mono hB.size)); clear hb1
  go_wp2
  go_ret
  exact ⟨⟨_, _, rfl, HA1.out⟩, HB4.out⟩

theorem leaf_dollar (a : Option Addr) (cap : Nat) (w : World) :
    Calls Tryz.prog 20 #[.agg #[.int .i64 6, .string ByteArray.empty, .int .i64 0, .bool false, .slice a 0 cap]] w fun e w' => AstBack w (.mk 6 ByteArray.empty 0 false []) e w' ∧ Below w.heap.size w w' := by
  go_enter Tryz.func20, Tryz.ntmps20
  go_wp2
  go_ret
  exact ⟨⟨_, _, rfl, .dollar _ none none 0 0 ⟨by simp, by simp⟩ (alloc_at _ _ _ (by simp))⟩, below_alloc2 _ _ _⟩
set_option maxRecDepth 100000 in
theorem tree_dollar : TreeOk (.mk 6 ByteArray.empty 0 false []) := by
  intro S w u hs
  obtain ⟨a, cap, rfl⟩ := subs_nil hs
  clear hs
  show Calls Tryz.prog 11 #[.agg #[.int .i64 6, .string ByteArray.empty, .int .i64 0, .bool false, .slice a 0 cap]] w _
  have hB := below_alloc1 w (.cells #[.int .i64 6, .string ByteArray.empty, .int .i64 0, .bool false, .slice a 0 cap] 24)
  go_enter Tryz.func11, Tryz.ntmps11
  go_wp2_with fail
  refine (leaf_dollar a cap _).mono ?_
  rintro e w4 ⟨⟨y1, b1, rfl, hA1⟩, hb1⟩
  have HA1 := Lib.hid (hA1.mono (T := fun k => w.heap.size ≤ k ∧ k < w4.heap.size) (fun k hk _ => ⟨by have := hk.1; simp at this; omega, hk.2⟩)); clear hA1
  have HB4 := Lib.hid (hB.trans (hb1.mono hB.size)); clear hb1
  go_wp2
  go_ret
  exact ⟨⟨_, _, rfl, HA1.out⟩, HB4.out⟩

theorem leaf_var (tx : ByteArray) (a : Option Addr) (cap : Nat) (w : World) :
    Calls Tryz.prog 20 #[.agg #[.int .i64 7, .string tx, .int .i64 0, .bool false, .slice a 0 cap]] w fun e w' => AstBack w (.mk 7 tx 0 false []) e w' ∧ Below w.heap.size w w' := by
  go_enter Tryz.func20, Tryz.ntmps20
  go_wp2
  go_ret
  exact ⟨⟨_, _, rfl, .var _ tx none none 0 0 ⟨by simp, by simp⟩ (alloc_at _ _ _ (by simp))⟩, below_alloc2 _ _ _⟩
set_option maxRecDepth 100000 in
theorem tree_var (tx : ByteArray) : TreeOk (.mk 7 tx 0 false []) := by
  intro S w u hs
  obtain ⟨a, cap, rfl⟩ := subs_nil hs
  clear hs
  show Calls Tryz.prog 11 #[.agg #[.int .i64 7, .string tx, .int .i64 0, .bool false, .slice a 0 cap]] w _
  have hB := below_alloc1 w (.cells #[.int .i64 7, .string tx, .int .i64 0, .bool false, .slice a 0 cap] 24)
  go_enter Tryz.func11, Tryz.ntmps11
  go_wp2_with fail
  refine (leaf_var tx a cap _).mono ?_
  rintro e w4 ⟨⟨y1, b1, rfl, hA1⟩, hb1⟩
  have HA1 := Lib.hid (hA1.mono (T := fun k => w.heap.size ≤ k ∧ k < w4.heap.size) (fun k hk _ => ⟨by have := hk.1; simp at this; omega, hk.2⟩)); clear hA1
  have HB4 := Lib.hid (hB.trans (hb1.mono hB.size)); clear hb1
  go_wp2
  go_ret
  exact ⟨⟨_, _, rfl, HA1.out⟩, HB4.out⟩

set_option maxRecDepth 100000 in
set_option maxHeartbeats 4000000 in
theorem tree_dot (tx : ByteArray) (t1 : Tr) (T1 : TreeOk t1) : TreeOk (.mk 16 tx 0 false [t1]) := by
  intro S w u hs
  obtain ⟨a, cap, rfl, hcap⟩ := hs.form
  have hs : Subs w S [t1] (.slice a 1 cap) := hs
  show Calls Tryz.prog 11 #[.agg #[.int .i64 16, .string tx, .int .i64 0, .bool false, .slice a 1 cap]] w _
  have hB := below_alloc2 w (.cells #[.int .i64 16, .string tx, .int .i64 0, .bool false, .slice a 1 cap] 24) (.cells #[.string tx] 92)
  have HS := Lib.hid (hs.bel hB); clear hs
  go_enter Tryz.func11, Tryz.ntmps11
  go_wp2_with fail
  have HID := Lib.hid (alloc_at (w.alloc (.cells #[.int .i64 16, .string tx, .int .i64 0, .bool false, .slice a 1 cap] 24)) (.cells #[.string tx] 92) (w.heap.size + 1) (by simp))
  refine (sub_mk (k := 16) (tx := tx) (op := 0) (fl := false) T1 0 0 rfl rfl HS.out).mono ?_
  rintro e w4 ⟨⟨y1, b1, rfl, hA1⟩, hb1⟩
  have HA1 := Lib.hid (hA1.mono (T := fun k => w.heap.size + 1 < k ∧ k < w4.heap.size) (fun k hk _ => ⟨by have := hk.1; simp at this; omega, hk.2⟩)); clear hA1
  have HB4 := Lib.hid (hB.trans (hb1.mono hB.size))
  have HI4 := Lib.hid ((hb1.block (w.heap.size + 1) (by simp)).trans HID.out); clear hb1
  have hz4 := heap_lt HI4.out
  go_wp2
  go_ret
  exact ⟨⟨_, _, rfl, .dot (S1 := fun k => w.heap.size + 1 < k ∧ k < w4.heap.size) _ (w.heap.size + 1) tx none none none none 0 0 0 0 ⟨by omega, by simp⟩ ⟨by omega, by simp; omega⟩ (by omega) (fun k hk => ⟨⟨by omega, by simp; omega⟩, by omega, by omega⟩) (heap_alloc_new _ _) ((Below.heap_alloc _ _ _ hz4).trans HI4.out) (HA1.out.bel (below_alloc1 _ _))⟩, HB4.out.trans ((below_alloc1 _ _).mono HB4.out.size)⟩
end Go.Proofs.YtlgajopaokjjaaaGreatFmt
