/-
  impl.PrettyNames. Conditions: spec.Tree's.
-/
import Derived.Test.YtlgajopaokjjaaaGreatFmtPrettyAny
import Derived.Test.YtlgajopaokjjaaaGreatFmtBase
import Derived.Test.YtlgajopaokjjaaaGreatFmtNodeAny
import Derived.Test.YtlgajopaokjjaaaGreatFmtTreeAny
namespace Go.Proofs.YtlgajopaokjjaaaGreatFmt
open Go.ChangeShapes Go.WideShapes Go.ChangeAt Go.RowKit Go.Joins
theorem below_allocs (w : World) (o1 o2 o3 : Obj) : Below w.heap.size w (((w.alloc o1).alloc o2).alloc o3) := (below_alloc2 w o1 o2).trans ((below_alloc1 _ o3).mono (by simp; omega))
set_option maxRecDepth 100000 in
set_option maxHeartbeats 800000 in
theorem implPretty_any {t : Tr} (ok : Ok t) {S : Nat → Prop} {w : World} {u : Value} (hs : Subs w S t.subs u) :
    Calls Tryz.prog 8 #[.agg #[.int .i64 t.k, .string t.tx, .int .i64 t.op, .bool t.fl, u]] w fun e w' => TreeBack w (chg 2 t) e w' ∧ Below w.heap.size w w' := by
  obtain ⟨a, cap, rfl, hcap⟩ := hs.form
  have HB := Lib.hid (below_allocs w (.cells #[.int .i64 t.k, .string t.tx, .int .i64 t.op, .bool t.fl, .slice a t.subs.length cap] 24) (.cells #[.int .i64 0, .string ByteArray.empty, .int .i64 0, .bool false, .slice none 0 0] 24) (.cells #[] 39))
  have HS := Lib.hid (hs.bel HB.out); clear hs
  have HZ := Lib.hid (show (((w.alloc (.cells #[.int .i64 t.k, .string t.tx, .int .i64 t.op, .bool t.fl, .slice a t.subs.length cap] 24)).alloc (.cells #[.int .i64 0, .string ByteArray.empty, .int .i64 0, .bool false, .slice none 0 0] 24)).alloc (.cells #[] 39)).heap[w.heap.size + 1]? = some (.cells #[.int .i64 0, .string ByteArray.empty, .int .i64 0, .bool false, .slice none 0 0] 24) from bk_alloc (by
    have := heap_alloc_new (w.alloc (.cells #[.int .i64 t.k, .string t.tx, .int .i64 t.op, .bool t.fl, .slice a t.subs.length cap] 24)) (.cells #[.int .i64 0, .string ByteArray.empty, .int .i64 0, .bool false, .slice none 0 0] 24)
    rwa [show (w.alloc (.cells #[.int .i64 t.k, .string t.tx, .int .i64 t.op, .bool t.fl, .slice a t.subs.length cap] 24)).heap.size = w.heap.size + 1 from by simp] at this))
  have HPA := Lib.hid (show PassAt 39 (w.heap.size + 1 + 1) (((w.alloc (.cells #[.int .i64 t.k, .string t.tx, .int .i64 t.op, .bool t.fl, .slice a t.subs.length cap] 24)).alloc (.cells #[.int .i64 0, .string ByteArray.empty, .int .i64 0, .bool false, .slice none 0 0] 24)).alloc (.cells #[] 39)) from by
    have := heap_alloc_new ((w.alloc (.cells #[.int .i64 t.k, .string t.tx, .int .i64 t.op, .bool t.fl, .slice a t.subs.length cap] 24)).alloc (.cells #[.int .i64 0, .string ByteArray.empty, .int .i64 0, .bool false, .slice none 0 0] 24)) (.cells #[] 39)
    rwa [show ((w.alloc (.cells #[.int .i64 t.k, .string t.tx, .int .i64 t.op, .bool t.fl, .slice a t.subs.length cap] 24)).alloc (.cells #[.int .i64 0, .string ByteArray.empty, .int .i64 0, .bool false, .slice none 0 0] 24)).heap.size = w.heap.size + 1 + 1 from by simp] at this)
  have HO := Lib.hid ok; clear ok
  go_enter Tryz.func8, Tryz.ntmps8
  go_wp2_with fail
  refine (tree_any HO.out S _ _ HS.out).mono ?_
  rintro e w1 ⟨⟨y, b, rfl, hA⟩, hb1⟩
  have hz1 : w.heap.size + 1 + 1 + 1 ≤ w1.heap.size := by have := hb1.size; simpa using this
  have hA' := hA.mono (T := fun k => w.heap.size + 1 + 1 + 1 ≤ k ∧ k < w1.heap.size) (fun k hk _ => by simpa using hk)
  have HB1 := Lib.hid hb1
  have hp1 := (hb1.block (w.heap.size + 1 + 1) (heap_lt HPA.out)).trans HPA.out
  have hB5 := below_allocs w1 (.cells #[] 222) (.cells #[.iface y (.pointer (some ⟨b, 0, none⟩))] 41) (.cells #[.slice (some ⟨w1.heap.size, 0, none⟩) 0 0] 44)
  have hp5 : PassAt 39 (w.heap.size + 1 + 1) (((w1.alloc (.cells #[] 222)).alloc (.cells #[.iface y (.pointer (some ⟨b, 0, none⟩))] 41)).alloc (.cells #[.slice (some ⟨w1.heap.size, 0, none⟩) 0 0] 44)) := (hB5.block _ (by omega)).trans hp1
  have pz := partAt_zero (P := Tryz.prog) hp5 (by kernel_rfl)
  have hx5 : ((((w1.alloc (.cells #[] 222)).alloc (.cells #[.iface y (.pointer (some ⟨b, 0, none⟩))] 41)).alloc (.cells #[.slice (some ⟨w1.heap.size, 0, none⟩) 0 0] 44))).heap[w1.heap.size + 1]? = some (.cells #[.iface y (.pointer (some ⟨b, 0, none⟩))] 41) := bk_alloc (by
    have := heap_alloc_new (w1.alloc (.cells #[] 222)) (.cells #[.iface y (.pointer (some ⟨b, 0, none⟩))] 41)
    rwa [show (w1.alloc (.cells #[] 222)).heap.size = w1.heap.size + 1 from by simp] at this)
  have hd5 : ((((w1.alloc (.cells #[] 222)).alloc (.cells #[.iface y (.pointer (some ⟨b, 0, none⟩))] 41)).alloc (.cells #[.slice (some ⟨w1.heap.size, 0, none⟩) 0 0] 44))).heap[w1.heap.size + 1 + 1]? = some (.cells #[.slice (some ⟨w1.heap.size, 0, none⟩) 0 0] 44) := by
    have := heap_alloc_new ((w1.alloc (.cells #[] 222)).alloc (.cells #[.iface y (.pointer (some ⟨b, 0, none⟩))] 41)) (.cells #[.slice (some ⟨w1.heap.size, 0, none⟩) 0 0] 44)
    rwa [show ((w1.alloc (.cells #[] 222)).alloc (.cells #[.iface y (.pointer (some ⟨b, 0, none⟩))] 41)).heap.size = w1.heap.size + 1 + 1 from by simp] at this
  have FILE := Lib.hid (file_any (prettyP _) (fun w h => method_zero (by kernel_rfl) Tryz.underlying39 rfl rfl rfl (by kernel_rfl) Tryz.underlying37 h (by kernel_rfl)) (.pointer (some ⟨w.heap.size + 1 + 1, 0, none⟩)) (x := w1.heap.size + 1) (d := w1.heap.size + 1 + 1) (pretty_any _ HO.out) hp5 (fun h => by omega) (by omega) (hA'.keep (fun _ h _ => h) (fun k _ hk => hB5.block k hk)) (fun h => by omega) hx5 hd5 (fun h => by omega) (by omega))
  have HB5 := Lib.hid hB5
  clear hA hA' hb1 hp1 hp5 hx5 hd5 hB5
  go_wp2_with fail
  refine FILE.out.mono ?_
  rintro e w2 ⟨rfl, y2, b2, h1, h2, h3⟩
  have q := cell_of (j := 0) h1 rfl
  have m1 := HB1.out.mono (show w.heap.size ≤ _ by simp; omega)
  have m5 := HB5.out.mono (show w.heap.size ≤ _ by omega)
  have m2 : Below w.heap.size (((w1.alloc (.cells #[] 222)).alloc (.cells #[.iface y (.pointer (some ⟨b, 0, none⟩))] 41)).alloc (.cells #[.slice (some ⟨w1.heap.size, 0, none⟩) 0 0] 44)) w2 := h2.below (fun k hk => by rcases hk with hk | hk <;> omega) (by simp; omega)
  have HB2 := Lib.hid (m1.trans (m5.trans m2))
  clear m1 m5 m2
  have HB2' := Lib.hid (HB.out.trans HB2.out)
  have HZ2 := Lib.hid ((h2.block (w.heap.size + 1) (by simp; omega) (fun hk => by rcases hk with hk | hk <;> omega)).trans ((HB5.out.block (w.heap.size + 1) (by omega)).trans ((HB1.out.block (w.heap.size + 1) (heap_lt HZ.out)).trans HZ.out)))
  have hz2 := h2.size
  have HA2 := Lib.hid h3
  have zw2 : w.heap.size + 2 ≤ w2.heap.size := by simp at hz2; omega
  clear h1 h2 h3 pz
  go_wp2_with fail
  refine (node_any HA2.out (bnd_chg (ok_bnd HO.out)) _ (Below.refl _ _)).mono ?_
  rintro e w3 ⟨⟨u3, rfl, hs3⟩, hb3⟩
  have HB3 := Lib.hid (HB2'.out.trans (hb3.mono HB2'.out.size))
  have HR3 := Lib.hid (hs3.mono (T := fun k => w.heap.size + 2 ≤ k) (fun k hk _ => Nat.le_trans zw2 hk))
  have HRX := Lib.hid ((hb3.block (w.heap.size + 1) (by omega)).trans HZ2.out); clear hs3 hb3 q
  obtain ⟨a3, c3, rfl, _⟩ := HR3.out.form
  have r0 := cell_of (j := 0) HRX.out rfl
  have r1 := cell_of (j := 1) HRX.out rfl
  have r2 := cell_of (j := 2) HRX.out rfl
  have r3 := cell_of (j := 3) HRX.out rfl
  have r4 := cell_of (j := 4) HRX.out rfl
  have r5 := fun i => unfrozen_of_block HRX.out i
  have zrr : w.heap.size + 1 < w3.heap.size := heap_lt HRX.out
  go_wp2
  have hr6 := set5_at (a := .int .i64 (chg 2 t).k) (b := .string (chg 2 t).tx) (c := .int .i64 (chg 2 t).op) (d := .bool (chg 2 t).fl) (e := .slice a3 (chg 2 t).subs.length c3) HRX.out
  have v0 := cell_of (j := 0) hr6 rfl
  have v1 := cell_of (j := 1) hr6 rfl
  have v2 := cell_of (j := 2) hr6 rfl
  have v3 := cell_of (j := 3) hr6 rfl
  have v4 := cell_of (j := 4) hr6 rfl
  refine bodyPost_ret (v := .agg #[.int .i64 (chg 2 t).k, .string (chg 2 t).tx, .int .i64 (chg 2 t).op, .bool (chg 2 t).fl, .slice a3 (chg 2 t).subs.length c3]) (by simp [results, Tryz.results8, go_sem, v0, v1, v2, v3, v4]) rfl ⟨⟨_, rfl, ?_⟩, below_set5 HB3.out (Nat.le_succ _)⟩
  exact HR3.out.keep (fun k hk _ => by omega) (fun k hk _ => heap_set5 (by omega))
end Go.Proofs.YtlgajopaokjjaaaGreatFmt
