/-
  spec.WithNames. Conditions: the lengths of the tree's lists; spec.Tree's.
-/
import Derived.Test.YtlgajopaokjjaaaGreatFmtSpecNm
namespace Go.Proofs.YtlgajopaokjjaaaGreatFmt
open Go.ChangeShapes Go.WideShapes Go.ChangeAt Go.RowKit Go.Joins
set_option maxRecDepth 100000 in
set_option maxHeartbeats 1000000 in
theorem names_any (t t' : Tr) (ht' : chg 2 t = t') (hbd : Bnd 2199023255488 t) (hok : Fit t) (htx : Txs t) {S : Nat → Prop} {w : World} {u : Value} (hs : Subs w S t.subs u) :
    Calls Tryz.prog 9 #[.agg #[.int .i64 t.k, .string t.tx, .int .i64 t.op, .bool t.fl, u]] w fun e w' => TreeBack w t' e w' ∧ Below w.heap.size w w' := by
  subst ht'
  obtain ⟨a, cap, rfl, hcap⟩ := hs.form
  have hB := below_alloc2 w (.cells #[.int .i64 t.k, .string t.tx, .int .i64 t.op, .bool t.fl, .slice a t.subs.length cap] 28) (.cells #[.int .i64 0, .string ⟨#[]⟩, .int .i64 0, .bool false, .slice none 0 0] 28)
  have C := Lib.hid (chg2_any t hbd hok htx _ _ _ (hs.bel hB))
  have HZ := Lib.hid (show ((w.alloc (.cells #[.int .i64 t.k, .string t.tx, .int .i64 t.op, .bool t.fl, .slice a t.subs.length cap] 28)).alloc (.cells #[.int .i64 0, .string ⟨#[]⟩, .int .i64 0, .bool false, .slice none 0 0] 28)).heap[w.heap.size + 1]? = some (.cells #[.int .i64 0, .string ⟨#[]⟩, .int .i64 0, .bool false, .slice none 0 0] 28) from by
    have := heap_alloc_new (w.alloc (.cells #[.int .i64 t.k, .string t.tx, .int .i64 t.op, .bool t.fl, .slice a t.subs.length cap] 28)) (.cells #[.int .i64 0, .string ⟨#[]⟩, .int .i64 0, .bool false, .slice none 0 0] 28)
    rwa [show (w.alloc (.cells #[.int .i64 t.k, .string t.tx, .int .i64 t.op, .bool t.fl, .slice a t.subs.length cap] 28)).heap.size = w.heap.size + 1 from by simp] at this)
  have HB := Lib.hid hB
  clear hs hB
  go_enter Tryz.func9, Tryz.ntmps9
  go_wp2_with fail
  refine C.out.mono ?_
  rintro e w1 ⟨⟨u1, rfl, hs1⟩, hb1⟩
  obtain ⟨a1, c1, rfl, _⟩ := hs1.form
  have hZ1 := (hb1.block (w.heap.size + 1) (by simp)).trans HZ.out
  have HB1 := Lib.hid (HB.out.trans (hb1.mono HB.out.size))
  have HS1 := Lib.hid (hs1.mono (T := fun k => w.heap.size + 1 < k) (fun k hk _ => by simp at hk; omega))
  have r0 := cell_of (j := 0) hZ1 rfl
  have r1 := cell_of (j := 1) hZ1 rfl
  have r2 := cell_of (j := 2) hZ1 rfl
  have r3 := cell_of (j := 3) hZ1 rfl
  have r4 := cell_of (j := 4) hZ1 rfl
  have r5 := fun i => unfrozen_of_block hZ1 i
  have zw := heap_lt' hZ1
  have HZ1 := Lib.hid hZ1
  clear hs1 hb1 hZ1
  go_wp2
  have hr6 := set5_at (a := .int .i64 (chg 2 t).k) (b := .string (chg 2 t).tx) (c := .int .i64 (chg 2 t).op) (d := .bool (chg 2 t).fl) (e := .slice a1 (chg 2 t).subs.length c1) HZ1.out
  have v0 := cell_of (j := 0) hr6 rfl
  have v1 := cell_of (j := 1) hr6 rfl
  have v2 := cell_of (j := 2) hr6 rfl
  have v3 := cell_of (j := 3) hr6 rfl
  have v4 := cell_of (j := 4) hr6 rfl
  refine bodyPost_ret (v := .agg #[.int .i64 (chg 2 t).k, .string (chg 2 t).tx, .int .i64 (chg 2 t).op, .bool (chg 2 t).fl, .slice a1 (chg 2 t).subs.length c1]) (by simp [results, Tryz.results9, go_sem, v0, v1, v2, v3, v4]) rfl ⟨⟨_, rfl, ?_⟩, below_set5 HB1.out (Nat.le_succ _)⟩
  exact (HS1.out.keep (fun k hk _ => (show w.heap.size ≤ k by omega)) (fun k hk _ => heap_set5 (g := w.heap.size + 1) (by omega)))
end Go.Proofs.YtlgajopaokjjaaaGreatFmt
