/-
  impl.tree, of a tree of which something is stated: a tree of package ast, in new memory, its parts apart. Conditions: spec.Tree's.
-/
import Derived.Test.YtlgajopaokjjaaaGreatFmtBase
namespace Go.Proofs.YtlgajopaokjjaaaGreatFmt
open Go.ChangeShapes Go.WideShapes Go.ChangeAt Go.RowKit Go.Joins

/-- What impl.tree gives: an interface value that points to a tree in new blocks. -/
def AstBack (w : World) (t : Tr) (e : Ending) (w' : World) : Prop := ∃ y b, e = .returned (.iface y (.pointer (some ⟨b, 0, none⟩))) ∧ Ast w' (fun k => w.heap.size ≤ k ∧ k < w'.heap.size) t y b
/-- impl.tree's contract at a tree. -/
def TreeOk (t : Tr) : Prop := ∀ (S : Nat → Prop) (w : World) (u : Value), Subs w S t.subs u →
    Calls Tryz.prog 11 #[.agg #[.int .i64 t.k, .string t.tx, .int .i64 t.op, .bool t.fl, u]] w fun e w' => AstBack w t e w' ∧ Below w.heap.size w w'
theorem sub_of {t s : Tr} (hT : TreeOk s) {i : Nat} (hi : t.subs[i]? = some s) (S : Nat → Prop) (w : World) (u : Value) (hs : Subs w S t.subs u) :
    Calls Tryz.prog 18 #[.agg #[.int .i64 t.k, .string t.tx, .int .i64 t.op, .bool t.fl, u], .int .i64 i] w fun e w' => AstBack w s e w' ∧ Below w.heap.size w w' := by
  obtain ⟨a, cap, rfl, hcap⟩ := hs.form
  have hlt : i < t.subs.length := (List.getElem?_eq_some_iff.1 hi).1
  have hB := below_alloc1 w (.cells #[.int .i64 t.k, .string t.tx, .int .i64 t.op, .bool t.fl, .slice a t.subs.length cap] 24)
  obtain ⟨b, off, u, rfl, hSb, hbl, hu, c0, c1, c2, c3, c4⟩ := (hs.bel hB).at_ hi
  obtain ⟨ua, uc, rfl, huc⟩ := hu.form
  have HU := Lib.hid hu; clear hu
  have HI := Lib.hid hi; clear hi
  have HT := Lib.hid hT; clear hT
  have d0 : decide (t.subs.length ≤ i) = false := by simp; omega
  go_enter Tryz.func18, Tryz.ntmps18
  go_wp2_with (go_at_call 11; refine (HT.out S _ _ HU.out).mono ?_; rintro e w1 ⟨⟨y, b1, rfl, hA⟩, hb1⟩)
  go_ret
  refine ⟨⟨y, b1, rfl, hA.mono fun k hk hl => ⟨?_, hk.2⟩⟩, hB.trans (hb1.mono hB.size)⟩
  have := hk.1
  simp at this
  omega

/-- The five cells of the node that the call holds. -/
def Box5 (w : World) (g : Nat) (c0 c1 c2 c3 c4 : Value) : Prop := (w.cell? ⟨g, 0, none⟩ = some c0 ∧ w.cell? ⟨g, 1, none⟩ = some c1 ∧ w.cell? ⟨g, 2, none⟩ = some c2 ∧ w.cell? ⟨g, 3, none⟩ = some c3 ∧ w.cell? ⟨g, 4, none⟩ = some c4) ∧ g < w.heap.size
theorem box5_new (w : World) (c0 c1 c2 c3 c4 : Value) (t : TypeId) : Box5 (w.alloc (.cells #[c0, c1, c2, c3, c4] t)).drew w.heap.size c0 c1 c2 c3 c4 := by
  have h := heap_alloc_new w (.cells #[c0, c1, c2, c3, c4] t)
  exact ⟨⟨cell_of (j := 0) h rfl, cell_of (j := 1) h rfl, cell_of (j := 2) h rfl, cell_of (j := 3) h rfl, cell_of (j := 4) h rfl⟩, heap_lt h⟩
theorem box5_new0 (w : World) (c0 c1 c2 c3 c4 : Value) (t : TypeId) : Box5 (w.alloc (.cells #[c0, c1, c2, c3, c4] t)) w.heap.size c0 c1 c2 c3 c4 := box5_new w c0 c1 c2 c3 c4 t
theorem Box5.below {w w' : World} {g : Nat} {c0 c1 c2 c3 c4 : Value} (h : Box5 w g c0 c1 c2 c3 c4) (hb : Below w.heap.size w w') : Box5 w' g c0 c1 c2 c3 c4 :=
  ⟨⟨(hb.cell (p := ⟨g, 0, none⟩) h.2).trans h.1.1, (hb.cell (p := ⟨g, 1, none⟩) h.2).trans h.1.2.1, (hb.cell (p := ⟨g, 2, none⟩) h.2).trans h.1.2.2.1, (hb.cell (p := ⟨g, 3, none⟩) h.2).trans h.1.2.2.2.1, (hb.cell (p := ⟨g, 4, none⟩) h.2).trans h.1.2.2.2.2⟩, Nat.lt_of_lt_of_le h.2 hb.size⟩
theorem Box5.keep {w w' : World} {g : Nat} {c0 c1 c2 c3 c4 : Value} (h : Box5 w g c0 c1 c2 c3 c4) (hb : w'.heap[g]? = w.heap[g]?) (hz : w.heap.size ≤ w'.heap.size) : Box5 w' g c0 c1 c2 c3 c4 :=
  ⟨⟨(World.cell?_of_block (w := w) (a := ⟨g, 0, none⟩) hb).trans h.1.1, (World.cell?_of_block (w := w) (a := ⟨g, 1, none⟩) hb).trans h.1.2.1, (World.cell?_of_block (w := w) (a := ⟨g, 2, none⟩) hb).trans h.1.2.2.1, (World.cell?_of_block (w := w) (a := ⟨g, 3, none⟩) hb).trans h.1.2.2.2.1, (World.cell?_of_block (w := w) (a := ⟨g, 4, none⟩) hb).trans h.1.2.2.2.2⟩, Nat.lt_of_lt_of_le h.2 hz⟩
theorem Box5.grown {w w' : World} {g : Nat} {c0 c1 c2 c3 c4 : Value} {row : Option Nat} (h : Box5 w g c0 c1 c2 c3 c4) (hg : w.grownBy w' row) (hn : row ≠ some g) : Box5 w' g c0 c1 c2 c3 c4 := h.keep (hg.block g h.2 hn.symm) hg.size
theorem Box5.setOther {w : World} {g : Nat} {c0 c1 c2 c3 c4 : Value} (h : Box5 w g c0 c1 c2 c3 c4) {p : Addr} {u : Value} (hn : g ≠ p.block) : Box5 (w.setCell p u) g c0 c1 c2 c3 c4 := h.keep (Below.heap_setCell _ _ _ _ hn) (by simp [World.setCell])
theorem sub_mk {k op : Int} {tx : ByteArray} {fl : Bool} {l : List Tr} {s : Tr} (hT : TreeOk s) (i : Nat) (n : Int) (hn : n = i) (hi : l[i]? = some s) {S : Nat → Prop} {w : World} {u : Value} (hs : Subs w S l u) :
    Calls Tryz.prog 18 #[.agg #[.int .i64 k, .string tx, .int .i64 op, .bool fl, u], .int .i64 n] w fun e w' => AstBack w s e w' ∧ Below w.heap.size w w' := by
  subst hn
  exact sub_of (t := .mk k tx op fl l) hT hi S w u hs

set_option maxRecDepth 100000 in
set_option maxHeartbeats 4000000 in
theorem tree_unary (op : Int) (t1 : Tr) (T1 : TreeOk t1) : TreeOk (.mk 8 ByteArray.empty op false [t1]) := by
  intro S w u hs
  obtain ⟨a, cap, rfl, hcap⟩ := hs.form
  have hs : Subs w S [t1] (.slice a 1 cap) := hs
  show Calls Tryz.prog 11 #[.agg #[.int .i64 8, .string ByteArray.empty, .int .i64 op, .bool false, .slice a 1 cap]] w _
  have hB := (below_alloc1 w (.cells #[.int .i64 8, .string ByteArray.empty, .int .i64 op, .bool false, .slice a 1 cap] 24)).drew
  have HS := Lib.hid (hs.bel hB); clear hs
  have HX := Lib.hid (box5_new w (.int .i64 8) (.string ByteArray.empty) (.int .i64 op) (.bool false) (.slice a 1 cap) 24)
  go_enter Tryz.func11, Tryz.ntmps11
  go_wp2_with fail
  go_region_law ((first
    | (refine step_call (by rfl) (sub_mk (k := 8) (tx := ByteArray.empty) (op := op) (fl := false) T1 0 0 rfl rfl HS.out) ?_ ?_; (focus (go_simp; done)); rintro e w4 ⟨⟨y1, b1, rfl, hA1⟩, hb1⟩; refine ⟨_, rfl, ?_⟩; have HX4 := Lib.hid (HX.out.below hb1); obtain ⟨⟨x0, x1, x2, x3, x4⟩, xl⟩ := HX4.out; have HA1 := Lib.hid (hA1.mono (T := fun k => w.heap.size < k ∧ k < w4.heap.size) (fun k hk _ => ⟨by have := hk.1; simp at this; omega, hk.2⟩)); clear hA1; have HB4 := Lib.hid (hB.trans (hb1.mono hB.size)); clear hb1)))
  all_goals
    have hz4 := HB4.out.size
    go_wp2
    go_ret
    exact ⟨⟨_, _, rfl, .unary (S1 := fun k => w.heap.size < k ∧ k < w4.heap.size) _ op none none 0 0 ⟨by omega, by simp⟩ (fun k hk => ⟨⟨by omega, by simp; omega⟩, by omega⟩) (heap_alloc_new _ _) (HA1.out.bel (below_alloc1 _ _))⟩, HB4.out.trans ((below_alloc1 _ _).mono HB4.out.size)⟩

set_option maxRecDepth 100000 in
set_option maxHeartbeats 4000000 in
theorem tree_binary (op : Int) (t1 t2 : Tr) (T1 : TreeOk t1) (T2 : TreeOk t2) : TreeOk (.mk 9 ByteArray.empty op false [t1, t2]) := by
  intro S w u hs
  obtain ⟨a, cap, rfl, hcap⟩ := hs.form
  have hs : Subs w S [t1, t2] (.slice a 2 cap) := hs
  show Calls Tryz.prog 11 #[.agg #[.int .i64 9, .string ByteArray.empty, .int .i64 op, .bool false, .slice a 2 cap]] w _
  have hB := (below_alloc1 w (.cells #[.int .i64 9, .string ByteArray.empty, .int .i64 op, .bool false, .slice a 2 cap] 24)).drew
  have HS := Lib.hid (hs.bel hB); clear hs
  have HX := Lib.hid (box5_new w (.int .i64 9) (.string ByteArray.empty) (.int .i64 op) (.bool false) (.slice a 2 cap) 24)
  go_enter Tryz.func11, Tryz.ntmps11
  go_wp2_with fail
  go_region_law ((first
    | (refine step_call (by rfl) (sub_mk (k := 9) (tx := ByteArray.empty) (op := op) (fl := false) T1 0 0 rfl rfl HS.out) ?_ ?_; (focus (go_simp; done)); rintro e w4 ⟨⟨y1, b1, rfl, hA1⟩, hb1⟩; refine ⟨_, rfl, ?_⟩; have HX4 := Lib.hid (HX.out.below hb1); obtain ⟨⟨x0, x1, x2, x3, x4⟩, xl⟩ := HX4.out; have HA1 := Lib.hid (hA1.mono (T := fun k => w.heap.size < k ∧ k < w4.heap.size) (fun k hk _ => ⟨by have := hk.1; simp at this; omega, hk.2⟩)); clear hA1; have HB4 := Lib.hid (hB.trans (hb1.mono hB.size)); have HS4 := Lib.hid (HS.out.bel hb1); clear hb1)
    | (refine step_call (by rfl) (sub_mk (k := 9) (tx := ByteArray.empty) (op := op) (fl := false) T2 1 1 rfl rfl HS4.out) ?_ ?_; (focus (go_simp; done)); rintro e w5 ⟨⟨y2, b2, rfl, hA2⟩, hb2⟩; refine ⟨_, rfl, ?_⟩; have HX5 := Lib.hid (HX4.out.below hb2); obtain ⟨⟨x0, x1, x2, x3, x4⟩, xl⟩ := HX5.out; have HA2 := Lib.hid hA2; clear hA2; have HA1 := Lib.hid (HA1.out.bel hb2); have HB5 := Lib.hid (HB4.out.trans (hb2.mono HB4.out.size)); have HZ5 := Lib.hid hb2.size; clear hb2)))
  all_goals
    have hz4 := HB4.out.size
    have hz5 := HZ5.out
    go_wp2
    go_ret
    exact ⟨⟨_, _, rfl, .binary (S1 := fun k => w.heap.size < k ∧ k < w4.heap.size) (S2 := fun k => w4.heap.size ≤ k ∧ k < w5.heap.size) _ op none none none 0 0 0 ⟨by omega, by simp⟩ (fun k hk => ⟨⟨by omega, by simp; omega⟩, by omega⟩) (fun k hk => ⟨⟨by omega, by simp; omega⟩, by omega⟩) (fun k hk hk' => by omega) (heap_alloc_new _ _) (HA1.out.bel (below_alloc1 _ _)) (HA2.out.bel (below_alloc1 _ _))⟩, HB5.out.trans ((below_alloc1 _ _).mono HB5.out.size)⟩

set_option maxRecDepth 100000 in
set_option maxHeartbeats 4000000 in
theorem tree_brace (t1 t2 : Tr) (T1 : TreeOk t1) (T2 : TreeOk t2) : TreeOk (.mk 14 ByteArray.empty 0 false [t1, t2]) := by
  intro S w u hs
  obtain ⟨a, cap, rfl, hcap⟩ := hs.form
  have hs : Subs w S [t1, t2] (.slice a 2 cap) := hs
  show Calls Tryz.prog 11 #[.agg #[.int .i64 14, .string ByteArray.empty, .int .i64 0, .bool false, .slice a 2 cap]] w _
  have hB := (below_alloc1 w (.cells #[.int .i64 14, .string ByteArray.empty, .int .i64 0, .bool false, .slice a 2 cap] 24)).drew
  have HS := Lib.hid (hs.bel hB); clear hs
  have HX := Lib.hid (box5_new w (.int .i64 14) (.string ByteArray.empty) (.int .i64 0) (.bool false) (.slice a 2 cap) 24)
  go_enter Tryz.func11, Tryz.ntmps11
  go_wp2_with fail
  go_region_law ((first
    | (refine step_call (by rfl) (sub_mk (k := 14) (tx := ByteArray.empty) (op := 0) (fl := false) T1 0 0 rfl rfl HS.out) ?_ ?_; (focus (go_simp; done)); rintro e w4 ⟨⟨y1, b1, rfl, hA1⟩, hb1⟩; refine ⟨_, rfl, ?_⟩; have HX4 := Lib.hid (HX.out.below hb1); obtain ⟨⟨x0, x1, x2, x3, x4⟩, xl⟩ := HX4.out; have HA1 := Lib.hid (hA1.mono (T := fun k => w.heap.size < k ∧ k < w4.heap.size) (fun k hk _ => ⟨by have := hk.1; simp at this; omega, hk.2⟩)); clear hA1; have HB4 := Lib.hid (hB.trans (hb1.mono hB.size)); have HS4 := Lib.hid (HS.out.bel hb1); clear hb1)
    | (refine step_call (by rfl) (sub_mk (k := 14) (tx := ByteArray.empty) (op := 0) (fl := false) T2 1 1 rfl rfl HS4.out) ?_ ?_; (focus (go_simp; done)); rintro e w5 ⟨⟨y2, b2, rfl, hA2⟩, hb2⟩; refine ⟨_, rfl, ?_⟩; have HX5 := Lib.hid (HX4.out.below hb2); obtain ⟨⟨x0, x1, x2, x3, x4⟩, xl⟩ := HX5.out; have HA2 := Lib.hid hA2; clear hA2; have HA1 := Lib.hid (HA1.out.bel hb2); have HB5 := Lib.hid (HB4.out.trans (hb2.mono HB4.out.size)); have HZ5 := Lib.hid hb2.size; clear hb2)))
  all_goals
    have hz4 := HB4.out.size
    have hz5 := HZ5.out
    go_wp2
    go_ret
    exact ⟨⟨_, _, rfl, .brace (S1 := fun k => w.heap.size < k ∧ k < w4.heap.size) (S2 := fun k => w4.heap.size ≤ k ∧ k < w5.heap.size) _ none none 0 0 ⟨by omega, by simp⟩ (fun k hk => ⟨⟨by omega, by simp; omega⟩, by omega⟩) (fun k hk => ⟨⟨by omega, by simp; omega⟩, by omega⟩) (fun k hk hk' => by omega) (heap_alloc_new _ _) (HA1.out.bel (below_alloc1 _ _)) (HA2.out.bel (below_alloc1 _ _))⟩, HB5.out.trans ((below_alloc1 _ _).mono HB5.out.size)⟩

set_option maxRecDepth 100000 in
set_option maxHeartbeats 4000000 in
theorem tree_index (t1 t2 : Tr) (T1 : TreeOk t1) (T2 : TreeOk t2) : TreeOk (.mk 15 ByteArray.empty 0 false [t1, t2]) := by
  intro S w u hs
  obtain ⟨a, cap, rfl, hcap⟩ := hs.form
  have hs : Subs w S [t1, t2] (.slice a 2 cap) := hs
  show Calls Tryz.prog 11 #[.agg #[.int .i64 15, .string ByteArray.empty, .int .i64 0, .bool false, .slice a 2 cap]] w _
  have hB := (below_alloc1 w (.cells #[.int .i64 15, .string ByteArray.empty, .int .i64 0, .bool false, .slice a 2 cap] 24)).drew
  have HS := Lib.hid (hs.bel hB); clear hs
  have HX := Lib.hid (box5_new w (.int .i64 15) (.string ByteArray.empty) (.int .i64 0) (.bool false) (.slice a 2 cap) 24)
  go_enter Tryz.func11, Tryz.ntmps11
  go_wp2_with fail
  go_region_law ((first
    | (refine step_call (by rfl) (sub_mk (k := 15) (tx := ByteArray.empty) (op := 0) (fl := false) T1 0 0 rfl rfl HS.out) ?_ ?_; (focus (go_simp; done)); rintro e w4 ⟨⟨y1, b1, rfl, hA1⟩, hb1⟩; refine ⟨_, rfl, ?_⟩; have HX4 := Lib.hid (HX.out.below hb1); obtain ⟨⟨x0, x1, x2, x3, x4⟩, xl⟩ := HX4.out; have HA1 := Lib.hid (hA1.mono (T := fun k => w.heap.size < k ∧ k < w4.heap.size) (fun k hk _ => ⟨by have := hk.1; simp at this; omega, hk.2⟩)); clear hA1; have HB4 := Lib.hid (hB.trans (hb1.mono hB.size)); have HS4 := Lib.hid (HS.out.bel hb1); clear hb1)
    | (refine step_call (by rfl) (sub_mk (k := 15) (tx := ByteArray.empty) (op := 0) (fl := false) T2 1 1 rfl rfl HS4.out) ?_ ?_; (focus (go_simp; done)); rintro e w5 ⟨⟨y2, b2, rfl, hA2⟩, hb2⟩; refine ⟨_, rfl, ?_⟩; have HX5 := Lib.hid (HX4.out.below hb2); obtain ⟨⟨x0, x1, x2, x3, x4⟩, xl⟩ := HX5.out; have HA2 := Lib.hid hA2; clear hA2; have HA1 := Lib.hid (HA1.out.bel hb2); have HB5 := Lib.hid (HB4.out.trans (hb2.mono HB4.out.size)); have HZ5 := Lib.hid hb2.size; clear hb2)))
  all_goals
    have hz4 := HB4.out.size
    have hz5 := HZ5.out
    go_wp2
    go_ret
    exact ⟨⟨_, _, rfl, .index (S1 := fun k => w.heap.size < k ∧ k < w4.heap.size) (S2 := fun k => w4.heap.size ≤ k ∧ k < w5.heap.size) _ none none none none 0 0 0 0 ⟨by omega, by simp⟩ (fun k hk => ⟨⟨by omega, by simp; omega⟩, by omega⟩) (fun k hk => ⟨⟨by omega, by simp; omega⟩, by omega⟩) (fun k hk hk' => by omega) (heap_alloc_new _ _) (HA1.out.bel (below_alloc1 _ _)) (HA2.out.bel (below_alloc1 _ _))⟩, HB5.out.trans ((below_alloc1 _ _).mono HB5.out.size)⟩

set_option maxRecDepth 100000 in
set_option maxHeartbeats 4000000 in
theorem tree_error (t1 : Tr) (T1 : TreeOk t1) : TreeOk (.mk 23 ByteArray.empty 0 false [t1]) := by
  intro S w u hs
  obtain ⟨a, cap, rfl, hcap⟩ := hs.form
  have hs : Subs w S [t1] (.slice a 1 cap) := hs
  show Calls Tryz.prog 11 #[.agg #[.int .i64 23, .string ByteArray.empty, .int .i64 0, .bool false, .slice a 1 cap]] w _
  have hB := (below_alloc1 w (.cells #[.int .i64 23, .string ByteArray.empty, .int .i64 0, .bool false, .slice a 1 cap] 24))
  have HS := Lib.hid (hs.bel hB); clear hs
  have HX := Lib.hid (box5_new0 w (.int .i64 23) (.string ByteArray.empty) (.int .i64 0) (.bool false) (.slice a 1 cap) 24)
  go_enter Tryz.func11, Tryz.ntmps11
  go_wp2_with fail
  refine (sub_mk (k := 23) (tx := ByteArray.empty) (op := 0) (fl := false) T1 0 0 rfl rfl HS.out).mono ?_
  rintro e w4 ⟨⟨y1, b1, rfl, hA1⟩, hb1⟩
  have HX4 := Lib.hid (HX.out.below hb1); obtain ⟨⟨x0, x1, x2, x3, x4⟩, xl⟩ := HX4.out; have HA1 := Lib.hid (hA1.mono (T := fun k => w.heap.size < k ∧ k < w4.heap.size) (fun k hk _ => ⟨by have := hk.1; simp at this; omega, hk.2⟩)); clear hA1; have HB4 := Lib.hid (hB.trans (hb1.mono hB.size)); clear hb1
  focus
    have hz4 := HB4.out.size
    go_wp2
    go_ret
    exact ⟨⟨_, _, rfl, .error (S1 := fun k => w.heap.size < k ∧ k < w4.heap.size) _ none none 0 0 ⟨by omega, by simp⟩ (fun k hk => ⟨⟨by omega, by simp; omega⟩, by omega⟩) (heap_alloc_new _ _) (HA1.out.bel (below_alloc1 _ _))⟩, HB4.out.trans ((below_alloc1 _ _).mono HB4.out.size)⟩

set_option maxRecDepth 100000 in
set_option maxHeartbeats 4000000 in
theorem tree_parens (t1 : Tr) (T1 : TreeOk t1) : TreeOk (.mk 28 ByteArray.empty 0 false [t1]) := by
  intro S w u hs
  obtain ⟨a, cap, rfl, hcap⟩ := hs.form
  have hs : Subs w S [t1] (.slice a 1 cap) := hs
  show Calls Tryz.prog 11 #[.agg #[.int .i64 28, .string ByteArray.empty, .int .i64 0, .bool false, .slice a 1 cap]] w _
  have hB := (below_alloc1 w (.cells #[.int .i64 28, .string ByteArray.empty, .int .i64 0, .bool false, .slice a 1 cap] 24))
  have HS := Lib.hid (hs.bel hB); clear hs
  have HX := Lib.hid (box5_new0 w (.int .i64 28) (.string ByteArray.empty) (.int .i64 0) (.bool false) (.slice a 1 cap) 24)
  go_enter Tryz.func11, Tryz.ntmps11
  go_wp2_with fail
  refine (sub_mk (k := 28) (tx := ByteArray.empty) (op := 0) (fl := false) T1 0 0 rfl rfl HS.out).mono ?_
  rintro e w4 ⟨⟨y1, b1, rfl, hA1⟩, hb1⟩
  have HX4 := Lib.hid (HX.out.below hb1); obtain ⟨⟨x0, x1, x2, x3, x4⟩, xl⟩ := HX4.out; have HA1 := Lib.hid (hA1.mono (T := fun k => w.heap.size < k ∧ k < w4.heap.size) (fun k hk _ => ⟨by have := hk.1; simp at this; omega, hk.2⟩)); clear hA1; have HB4 := Lib.hid (hB.trans (hb1.mono hB.size)); clear hb1
  focus
    have hz4 := HB4.out.size
    go_wp2
    go_ret
    exact ⟨⟨_, _, rfl, .parens (S1 := fun k => w.heap.size < k ∧ k < w4.heap.size) _ none none none 0 0 0 ⟨by omega, by simp⟩ (fun k hk => ⟨⟨by omega, by simp; omega⟩, by omega⟩) (heap_alloc_new _ _) (HA1.out.bel (below_alloc1 _ _))⟩, HB4.out.trans ((below_alloc1 _ _).mono HB4.out.size)⟩

end Go.Proofs.YtlgajopaokjjaaaGreatFmt
