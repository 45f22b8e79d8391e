/-
  impl.StyleString at a fine text between quotes. Conditions: its length.
-/
import Derived.Test.YtceepfnjdkfjnaaFmtStrLit
import Derived.BigQuiet
namespace Go.Proofs.YtceepfnjdkfjnaaFmt
open Go.ChangeShapes Go.WideShapes Go.ChangeAt Go.RowKit Go.Joins Go.Extern.Stop Go.Stop Go.Extern

set_option maxHeartbeats 4000000 in
set_option maxRecDepth 1000000 in
theorem style_any (F : Interp) (st kd : Int) (hst : st = 0 ∨ st = 1) (hkd : kd = 0 ∨ kd = 1) (v : ByteArray) (hs : v.size ≤ 400) (hv : Val v.data.toList) (hf : (unL v.data.toList).1 = 1) (cs : List Nat) (hcs : ∀ r ∈ cs, Sc r) (hsay : (unL v.data.toList).2 = cs.flatMap enc) (hlen : (unL v.data.toList).2.length ≤ 400)
    (w : World) (hF : F.told.answers w.tape) (HT0 : Lib.Utf8Tabs 0 1 w) (HE0 : ∃ ev, w.cell? ⟨3, 0, none⟩ = some ev) :
    Calls Tryf.prog 8 #[.int .i64 st, .int .i64 kd, .string v] w fun e w' => (∃ kd' v', e = .returned (.tuple #[.int .i64 kd', .string v']) ∧ Styled st kd v cs kd' v') ∧ Below w.heap.size w w' := by
  have hB := below_alloc2 w (.cells #[.int .i64 0, .int .i64 0, .int .i64 st, .int .i64 0, .bool false, .bool false, .bool false, .bool false, .bool false, .bool false, .bool false, .bool false] 53) (.cells #[.string v, .string ByteArray.empty, .string ByteArray.empty, .slice none 0 0, .pointer none, .slice none 0 0, .pointer none, .string ByteArray.empty, .int .i64 0, .int .i64 0, .int .i64 0, .int .i64 0, .int .i64 kd] 70)
  have r0 := heap_alloc_new w (.cells #[.int .i64 0, .int .i64 0, .int .i64 st, .int .i64 0, .bool false, .bool false, .bool false, .bool false, .bool false, .bool false, .bool false, .bool false] 53)
  have r1 : ((w.alloc (.cells #[.int .i64 0, .int .i64 0, .int .i64 st, .int .i64 0, .bool false, .bool false, .bool false, .bool false, .bool false, .bool false, .bool false, .bool false] 53)).alloc (.cells #[.string v, .string ByteArray.empty, .string ByteArray.empty, .slice none 0 0, .pointer none, .slice none 0 0, .pointer none, .string ByteArray.empty, .int .i64 0, .int .i64 0, .int .i64 0, .int .i64 0, .int .i64 kd] 70)).heap[w.heap.size + 1]? = some (.cells #[.string v, .string ByteArray.empty, .string ByteArray.empty, .slice none 0 0, .pointer none, .slice none 0 0, .pointer none, .string ByteArray.empty, .int .i64 0, .int .i64 0, .int .i64 0, .int .i64 0, .int .i64 kd] 70) := by
    have := heap_alloc_new (w.alloc (.cells #[.int .i64 0, .int .i64 0, .int .i64 st, .int .i64 0, .bool false, .bool false, .bool false, .bool false, .bool false, .bool false, .bool false, .bool false] 53)) (.cells #[.string v, .string ByteArray.empty, .string ByteArray.empty, .slice none 0 0, .pointer none, .slice none 0 0, .pointer none, .string ByteArray.empty, .int .i64 0, .int .i64 0, .int .i64 0, .int .i64 0, .int .i64 kd] 70)
    rwa [show (w.alloc (.cells #[.int .i64 0, .int .i64 0, .int .i64 st, .int .i64 0, .bool false, .bool false, .bool false, .bool false, .bool false, .bool false, .bool false, .bool false] 53)).heap.size = w.heap.size + 1 by simp] at this
  have HLT := Lib.hid (literal_any F st kd hst hkd v hs hv hf cs hcs hsay hlen w.heap.size (w.heap.size + 1) (.iface 45 (.pointer (some ⟨w.heap.size, 0, none⟩))) .nilIface _ (cell_of (j := 2) (bk_alloc r0) rfl) r1 (by rw [hB.tape]; exact hF) (Utf8Tabs_below HT0 hB) (by obtain ⟨ev, h⟩ := HE0; exact ⟨ev, keep_cell hB h⟩))
  have HB := Lib.hid hB
  clear hB r0 r1 hF HT0 HE0 hv hf hcs hsay hlen
  go_enter Tryf.func8, Tryf.ntmps8
  go_wp2_with fail
  refine HLT.out.mono ?_
  rintro e w1 ⟨rfl, ⟨kd', v', hl, hst'⟩, hg⟩
  have HS := Lib.hid hst'
  have HB1 := Lib.hid (HB.out.grown hg HB.out.size (fun k hk => by injection hk with hk; omega))
  have x0 := cell_of (j := 0) hl rfl
  have x12 := cell_of (j := 12) hl rfl
  clear hst' hg hl
  go_wp2_with fail
  refine wp_region_quiet_C (fun w' => (w'.cell? ⟨w.heap.size + 1, 0, none⟩ = some (.string v') ∧ w'.cell? ⟨w.heap.size + 1, 12, none⟩ = some (.int .i64 kd')) ∧ Below w.heap.size w w') (by kernel_rfl) (by kernel_rfl) (⟨⟨x0, x12⟩, HB1.out.drew⟩) ?_
  repeat (first
    | (refine wpQ_skip (by rfl) ?_; simp only [Act.put, List.setIfInBounds_toArray, List.set_cons_zero, List.set_cons_succ])
    | (refine wpQ_value (v := ?_) (by rfl) ?_ ?_; rotate_left; (intro w hw; go_simp; done); simp only [Act.put, List.setIfInBounds_toArray, List.set_cons_zero, List.set_cons_succ])
    | (refine wpQ_value (v := ?_) (by rfl) ?_ ?_; rotate_left; (intro w hw; go_simp; with_reducible rfl); simp only [Act.put, List.setIfInBounds_toArray, List.set_cons_zero, List.set_cons_succ])
    | (refine wpQ_call (f := ?_) (args := ?_) (v := ?_) (by rfl) ?_ ?_ ?_; rotate_left 3; (intro w hw; go_simp; first | with_reducible rfl | (constructor; with_reducible rfl; with_reducible rfl)); (intro w hw; first | fail); simp only [Act.put, List.setIfInBounds_toArray, List.set_cons_zero, List.set_cons_succ]))
  refine wpQuiet_nil ?_
  intro w2 hS1
  go_wp2
  go_ret2
  exact ⟨⟨_, _, rfl, HS.out⟩, hS1.2⟩
end Go.Proofs.YtceepfnjdkfjnaaFmt
