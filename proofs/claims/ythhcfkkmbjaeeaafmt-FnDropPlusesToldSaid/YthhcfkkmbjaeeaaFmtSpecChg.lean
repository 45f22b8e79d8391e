/-
  spec.change: what a tree means. Conditions: spec.Tree's.
-/
import Derived.Test.YthhcfkkmbjaeeaaFmtSpecMap
namespace Go.Proofs.YthhcfkkmbjaeeaaFmt
open Go.ChangeShapes Go.WideShapes Go.ChangeAt Go.RowKit Go.Joins
set_option maxRecDepth 100000 in
set_option maxHeartbeats 1000000 in
theorem mean_any (t : Tr) (hbd : Bnd 2199023255488 t) : ChangeOk 3 t (chg 3 t) := by
  induction t using Tr.ind with
  | h t ih =>
  intro S w u hs
  obtain ⟨a, cap, rfl, hcap⟩ := hs.form
  have kid : ∀ s ∈ t.subs, ChangeOk 3 s (chg 3 s) := fun s h => ih s h (hbd.sub s h)
  have hlen := hbd.len
  by_cases h14 : t.k = 14
  · have d : (t.k == 14) = true := by simp [h14]
    have e : chg 3 t = .mk 9 t.tx 3 t.fl (t.subs.map (chg 3)) := by
      conv => lhs; rw [t.eta]
      rw [chg3_mk, if_pos h14]
    rw [e]
    have hBB := below_alloc2 w (.cells #[.int .i64 9, .string t.tx, .int .i64 3, .bool t.fl, .slice a t.subs.length cap] 28) (.cells #[.int .i64 0, .string ⟨#[]⟩, .int .i64 0, .bool false, .slice none 0 0] 28)
    have MP := Lib.hid (mapped_un (f := 3) (k := 9) (tx := t.tx) (op := 3) (fl := t.fl) (by decide) (chg 3) (Subs.bel hs hBB) hlen kid)
    have HZ := Lib.hid (show ((w.alloc (.cells #[.int .i64 9, .string t.tx, .int .i64 3, .bool t.fl, .slice a t.subs.length cap] 28)).alloc (.cells #[.int .i64 0, .string ⟨#[]⟩, .int .i64 0, .bool false, .slice none 0 0] 28)).heap[w.heap.size + 1]? = some (.cells #[.int .i64 0, .string ⟨#[]⟩, .int .i64 0, .bool false, .slice none 0 0] 28) from by
      have := heap_alloc_new (w.alloc (.cells #[.int .i64 9, .string t.tx, .int .i64 3, .bool t.fl, .slice a t.subs.length cap] 28)) (.cells #[.int .i64 0, .string ⟨#[]⟩, .int .i64 0, .bool false, .slice none 0 0] 28)
      rwa [show (w.alloc (.cells #[.int .i64 9, .string t.tx, .int .i64 3, .bool t.fl, .slice a t.subs.length cap] 28)).heap.size = w.heap.size + 1 from by simp] at this)
    have HB := Lib.hid hBB
    clear hs hBB kid ih hbd
    go_enter Tryf.func15, Tryf.ntmps15
    go_wp2_with fail
    refine MP.out.mono ?_
    rintro e w1 ⟨⟨a1, c1, rfl, hs1⟩, hb1⟩
    have hZ1 := (hb1.block (w.heap.size + 1) (by simp)).trans HZ.out
    have HB1 := Lib.hid (HB.out.trans (hb1.mono HB.out.size))
    have HS1 := Lib.hid (hs1.mono (T := fun k => w.heap.size + 1 < k) (fun k hk _ => by simp at hk; omega))
    have r0 := cell_of (j := 0) hZ1 rfl
    have r1 := cell_of (j := 1) hZ1 rfl
    have r2 := cell_of (j := 2) hZ1 rfl
    have r3 := cell_of (j := 3) hZ1 rfl
    have r4 := cell_of (j := 4) hZ1 rfl
    have r5 := fun i => unfrozen_of_block hZ1 i
    have zw := heap_lt' hZ1
    have HZ1 := Lib.hid hZ1
    clear hs1 hb1 hZ1
    go_wp2
    have hr6 := set5_at (a := .int .i64 9) (b := .string t.tx) (c := .int .i64 3) (d := .bool t.fl) (e := .slice a1 t.subs.length c1) HZ1.out
    have v0 := cell_of (j := 0) hr6 rfl
    have v1 := cell_of (j := 1) hr6 rfl
    have v2 := cell_of (j := 2) hr6 rfl
    have v3 := cell_of (j := 3) hr6 rfl
    have v4 := cell_of (j := 4) hr6 rfl
    refine bodyPost_ret (v := .agg #[.int .i64 9, .string t.tx, .int .i64 3, .bool t.fl, .slice a1 t.subs.length c1]) (by simp [results, Tryf.results15, go_sem, v0, v1, v2, v3, v4]) rfl ⟨⟨_, rfl, ?_⟩, below_set5 HB1.out (Nat.le_succ _)⟩
    exact (HS1.out.keep (fun k hk _ => (show w.heap.size ≤ k by omega)) (fun k hk _ => heap_set5 (g := w.heap.size + 1) (by omega)))
  · have d : (t.k == 14) = false := by simp [h14]
    have e : chg 3 t = .mk t.k t.tx t.op t.fl (t.subs.map (chg 3)) := by
      conv => lhs; rw [t.eta]
      rw [chg3_mk, if_neg h14]
    rw [e]
    have hBB := below_alloc2 w (.cells #[.int .i64 t.k, .string t.tx, .int .i64 t.op, .bool t.fl, .slice a t.subs.length cap] 28) (.cells #[.int .i64 0, .string ⟨#[]⟩, .int .i64 0, .bool false, .slice none 0 0] 28)
    have MP := Lib.hid (mapped_un (f := 3) (k := t.k) (tx := t.tx) (op := t.op) (fl := t.fl) (by decide) (chg 3) (Subs.bel hs hBB) hlen kid)
    have HZ := Lib.hid (show ((w.alloc (.cells #[.int .i64 t.k, .string t.tx, .int .i64 t.op, .bool t.fl, .slice a t.subs.length cap] 28)).alloc (.cells #[.int .i64 0, .string ⟨#[]⟩, .int .i64 0, .bool false, .slice none 0 0] 28)).heap[w.heap.size + 1]? = some (.cells #[.int .i64 0, .string ⟨#[]⟩, .int .i64 0, .bool false, .slice none 0 0] 28) from by
      have := heap_alloc_new (w.alloc (.cells #[.int .i64 t.k, .string t.tx, .int .i64 t.op, .bool t.fl, .slice a t.subs.length cap] 28)) (.cells #[.int .i64 0, .string ⟨#[]⟩, .int .i64 0, .bool false, .slice none 0 0] 28)
      rwa [show (w.alloc (.cells #[.int .i64 t.k, .string t.tx, .int .i64 t.op, .bool t.fl, .slice a t.subs.length cap] 28)).heap.size = w.heap.size + 1 from by simp] at this)
    have HB := Lib.hid hBB
    clear hs hBB kid ih hbd
    go_enter Tryf.func15, Tryf.ntmps15
    go_wp2_with fail
    refine MP.out.mono ?_
    rintro e w1 ⟨⟨a1, c1, rfl, hs1⟩, hb1⟩
    have hZ1 := (hb1.block (w.heap.size + 1) (by simp)).trans HZ.out
    have HB1 := Lib.hid (HB.out.trans (hb1.mono HB.out.size))
    have HS1 := Lib.hid (hs1.mono (T := fun k => w.heap.size + 1 < k) (fun k hk _ => by simp at hk; omega))
    have r0 := cell_of (j := 0) hZ1 rfl
    have r1 := cell_of (j := 1) hZ1 rfl
    have r2 := cell_of (j := 2) hZ1 rfl
    have r3 := cell_of (j := 3) hZ1 rfl
    have r4 := cell_of (j := 4) hZ1 rfl
    have r5 := fun i => unfrozen_of_block hZ1 i
    have zw := heap_lt' hZ1
    have HZ1 := Lib.hid hZ1
    clear hs1 hb1 hZ1
    go_wp2
    have hr6 := set5_at (a := .int .i64 t.k) (b := .string t.tx) (c := .int .i64 t.op) (d := .bool t.fl) (e := .slice a1 t.subs.length c1) HZ1.out
    have v0 := cell_of (j := 0) hr6 rfl
    have v1 := cell_of (j := 1) hr6 rfl
    have v2 := cell_of (j := 2) hr6 rfl
    have v3 := cell_of (j := 3) hr6 rfl
    have v4 := cell_of (j := 4) hr6 rfl
    refine bodyPost_ret (v := .agg #[.int .i64 t.k, .string t.tx, .int .i64 t.op, .bool t.fl, .slice a1 t.subs.length c1]) (by simp [results, Tryf.results15, go_sem, v0, v1, v2, v3, v4]) rfl ⟨⟨_, rfl, ?_⟩, below_set5 HB1.out (Nat.le_succ _)⟩
    exact (HS1.out.keep (fun k hk _ => (show w.heap.size ≤ k by omega)) (fun k hk _ => heap_set5 (g := w.heap.size + 1) (by omega)))
end Go.Proofs.YthhcfkkmbjaeeaaFmt
