/-
  spec.own: a node has what its kind has. Conditions: none.
-/
import Derived.Test.YtlgajopaokjjaaaGreatFmtSpecT
import Derived.Deep.RegionLaw
namespace Go.Proofs.YtlgajopaokjjaaaGreatFmt
open Go.ChangeShapes Go.WideShapes Go.ChangeAt Go.RowKit Go.Joins

/-- A call of a Go function, as one step of a region that draws; its guard is decided. -/
theorem step_callw {P : Program} {ops : Array Oper} {o : Oper} {a : Act} {w : World} {K : Act → World → Prop} {Q : Exit → Act → World → Prop} {E : Prop} {f : FuncId} {args : Array Value} {R : Ending → World → Prop} (hw : Region.wanted o (yielded ops a.tmps) = true)
    (hc : Calls P f args w R) (hv : (execOp a.eval o).run P w = .ok (.enter f args) w) (hR : ∀ e w', R e w' → ∃ v, e = .returned v ∧ K (a.put o.dst v) w') : if Region.wanted o (yielded ops a.tmps) = true then Oper.wp P o a w K Q else E := by
  rw [if_pos hw]
  unfold Oper.wp
  rw [hv, Oper.upon_enter]
  exact hc.mono fun e w' h => by
    obtain ⟨v, rfl, hk⟩ := hR e w' h
    exact hk
set_option maxRecDepth 100000 in
set_option maxHeartbeats 4000000 in
theorem own_ops8 (tx : ByteArray) (op : Int) (fl : Bool) (u : Value) (l : List Tr) (_hu : u.oneCell' = true) (w : World) : Calls Tryz.prog 16 #[.agg #[.int .i64 8, .string tx, .int .i64 op, .bool fl, u]] w fun e w' => IfTells (ownF (.mk 8 tx op fl l)) e ∧ Below w.heap.size w w' := by
  have hB := below_alloc1 w (.cells #[.int .i64 8, .string tx, .int .i64 op, .bool fl, u] 28)
  by_cases h1 : tx.toList = []
  · have h2 : (!tx.toList.isEmpty) = false := by simp [h1]
    obtain rfl := (toList_nil_iff_emptyBytes tx).1 h1
    clear h1 h2
    by_cases h0 : op < 0
    · have d0 : decide (0 ≤ op) = false := by simp; omega
      have d0' : (0 ≤ op) = False := by simp; omega
      go_enter Tryz.func16, Tryz.ntmps16
      go_wp2
      refine wp_region_quiet_C (Stay (w.alloc (.cells #[.int .i64 8, .string ByteArray.empty, .int .i64 op, .bool fl, u] 28))) (by kernel_rfl) (by kernel_rfl) (stay_start _) ?_
      repeat (first
        | (refine wpQ_skip (by rfl) ?_; simp only [Act.put, List.setIfInBounds_toArray, List.set_cons_zero, List.set_cons_succ])
        | (refine wpQ_value (v := ?_) (by rfl) ?_ ?_; rotate_left; (intro w hw; go_simp; done); simp only [Act.put, List.setIfInBounds_toArray, List.set_cons_zero, List.set_cons_succ])
        | (refine wpQ_value (v := ?_) (by rfl) ?_ ?_; rotate_left; (intro w hw; go_simp; with_reducible rfl); simp only [Act.put, List.setIfInBounds_toArray, List.set_cons_zero, List.set_cons_succ])
        | (refine wpQ_call (f := ?_) (args := ?_) (v := ?_) (by rfl) ?_ ?_ ?_; rotate_left 3; (intro w hw; go_simp; first | with_reducible rfl | (constructor; with_reducible rfl; with_reducible rfl)); (intro w hw; first | fail); simp only [Act.put, List.setIfInBounds_toArray, List.set_cons_zero, List.set_cons_succ]))
      refine wpQuiet_nil ?_
      intro w1 hS1
      have hB1 := hB.trans (hS1.1.mono hB.size)
      clear d0' d0
      go_wp2
      go_ret
      exact ⟨ifTells_no _, hB1⟩
    · have d0 : decide (0 ≤ op) = true := by simp; omega
      have d0' : 0 ≤ op := by omega
      clear h0
      by_cases h4 : op < 4
      · have HF := Lib.hid (show fl = false → ownF (.mk 8 ByteArray.empty op fl l) from fun h => by simp [ownF, Tr.k, Tr.tx, Tr.op, Tr.fl, h, d0', h4])
        go_enter Tryz.func16, Tryz.ntmps16
        go_wp2
        first
          | (go_region_law ((refine step_callw (by rfl) (signs_any _) ?_ ?_; (focus (go_simp; done)); rintro e w1 ⟨rfl, hb1⟩; refine ⟨_, rfl, ?_⟩; have x3 := ((bcell hb1).1 w.heap.size 3 (by simp)); have x2 := ((bcell hb1).1 w.heap.size 2 (by simp)); simp only [World.cell?_drew, World.cell?_alloc_mark] at x3 x2)))
          | fail
        all_goals
          go_wp2
          go_ret
          exact ⟨ifTells_of (fun hr => HF.out (by simpa using hr)), hB.drew.trans (hb1.mono hB.drew.size)⟩
      · have d4 : decide (op < 4) = false := by simp; omega
        go_enter Tryz.func16, Tryz.ntmps16
        go_wp2
        first
          | (go_region_law ((refine step_callw (by rfl) (signs_any _) ?_ ?_; (focus (go_simp; done)); rintro e w1 ⟨rfl, hb1⟩; refine ⟨_, rfl, ?_⟩; have x3 := ((bcell hb1).1 w.heap.size 3 (by simp)); have x2 := ((bcell hb1).1 w.heap.size 2 (by simp)); simp only [World.cell?_drew, World.cell?_alloc_mark] at x3 x2)))
          | fail
        all_goals
          go_wp2
          go_ret
          exact ⟨ifTells_no _, hB.drew.trans (hb1.mono hB.drew.size)⟩
  · have h2 : tx.toList.isEmpty = false := by simpa using h1
    go_enter Tryz.func16, Tryz.ntmps16
    go_wp2
    refine wp_region_quiet_C (Stay (w.alloc (.cells #[.int .i64 8, .string tx, .int .i64 op, .bool fl, u] 28))) (by kernel_rfl) (by kernel_rfl) (stay_start _) ?_
    repeat (first
      | (refine wpQ_skip (by rfl) ?_; simp only [Act.put, List.setIfInBounds_toArray, List.set_cons_zero, List.set_cons_succ])
      | (refine wpQ_value (v := ?_) (by rfl) ?_ ?_; rotate_left; (intro w hw; go_simp; done); simp only [Act.put, List.setIfInBounds_toArray, List.set_cons_zero, List.set_cons_succ])
      | (refine wpQ_value (v := ?_) (by rfl) ?_ ?_; rotate_left; (intro w hw; go_simp; with_reducible rfl); simp only [Act.put, List.setIfInBounds_toArray, List.set_cons_zero, List.set_cons_succ])
      | (refine wpQ_call (f := ?_) (args := ?_) (v := ?_) (by rfl) ?_ ?_ ?_; rotate_left 3; (intro w hw; go_simp; first | with_reducible rfl | (constructor; with_reducible rfl; with_reducible rfl)); (intro w hw; first | fail); simp only [Act.put, List.setIfInBounds_toArray, List.set_cons_zero, List.set_cons_succ]))
    refine wpQuiet_nil ?_
    intro w1 hS1
    have hB1 := hB.trans (hS1.1.mono hB.size)
    clear h1 h2
    go_wp2
    go_ret
    exact ⟨ifTells_no _, hB1⟩
set_option maxRecDepth 100000 in
set_option maxHeartbeats 4000000 in
theorem own_ops9 (tx : ByteArray) (op : Int) (fl : Bool) (u : Value) (l : List Tr) (_hu : u.oneCell' = true) (w : World) : Calls Tryz.prog 16 #[.agg #[.int .i64 9, .string tx, .int .i64 op, .bool fl, u]] w fun e w' => IfTells (ownF (.mk 9 tx op fl l)) e ∧ Below w.heap.size w w' := by
  have hB := below_alloc1 w (.cells #[.int .i64 9, .string tx, .int .i64 op, .bool fl, u] 28)
  by_cases h1 : tx.toList = []
  · have h2 : (!tx.toList.isEmpty) = false := by simp [h1]
    obtain rfl := (toList_nil_iff_emptyBytes tx).1 h1
    clear h1 h2
    by_cases h0 : op < 0
    · have d0 : decide (0 ≤ op) = false := by simp; omega
      have d0' : (0 ≤ op) = False := by simp; omega
      go_enter Tryz.func16, Tryz.ntmps16
      go_wp2
      refine wp_region_quiet_C (Stay (w.alloc (.cells #[.int .i64 9, .string ByteArray.empty, .int .i64 op, .bool fl, u] 28))) (by kernel_rfl) (by kernel_rfl) (stay_start _) ?_
      repeat (first
        | (refine wpQ_skip (by rfl) ?_; simp only [Act.put, List.setIfInBounds_toArray, List.set_cons_zero, List.set_cons_succ])
        | (refine wpQ_value (v := ?_) (by rfl) ?_ ?_; rotate_left; (intro w hw; go_simp; done); simp only [Act.put, List.setIfInBounds_toArray, List.set_cons_zero, List.set_cons_succ])
        | (refine wpQ_value (v := ?_) (by rfl) ?_ ?_; rotate_left; (intro w hw; go_simp; with_reducible rfl); simp only [Act.put, List.setIfInBounds_toArray, List.set_cons_zero, List.set_cons_succ])
        | (refine wpQ_call (f := ?_) (args := ?_) (v := ?_) (by rfl) ?_ ?_ ?_; rotate_left 3; (intro w hw; go_simp; first | with_reducible rfl | (constructor; with_reducible rfl; with_reducible rfl)); (intro w hw; first | fail); simp only [Act.put, List.setIfInBounds_toArray, List.set_cons_zero, List.set_cons_succ]))
      refine wpQuiet_nil ?_
      intro w1 hS1
      have hB1 := hB.trans (hS1.1.mono hB.size)
      clear d0' d0
      go_wp2
      go_ret
      exact ⟨ifTells_no _, hB1⟩
    · have d0 : decide (0 ≤ op) = true := by simp; omega
      have d0' : 0 ≤ op := by omega
      clear h0
      by_cases h4 : op < 19
      · have HF := Lib.hid (show fl = false → ownF (.mk 9 ByteArray.empty op fl l) from fun h => by simp [ownF, Tr.k, Tr.tx, Tr.op, Tr.fl, h, d0', h4])
        go_enter Tryz.func16, Tryz.ntmps16
        go_wp2
        first
          | (go_region_law ((refine step_callw (by rfl) (ops_any _) ?_ ?_; (focus (go_simp; done)); rintro e w1 ⟨rfl, hb1⟩; refine ⟨_, rfl, ?_⟩; have x3 := ((bcell hb1).1 w.heap.size 3 (by simp)); have x2 := ((bcell hb1).1 w.heap.size 2 (by simp)); simp only [World.cell?_drew, World.cell?_alloc_mark] at x3 x2)))
          | fail
        all_goals
          go_wp2
          go_ret
          exact ⟨ifTells_of (fun hr => HF.out (by simpa using hr)), hB.drew.trans (hb1.mono hB.drew.size)⟩
      · have d4 : decide (op < 19) = false := by simp; omega
        go_enter Tryz.func16, Tryz.ntmps16
        go_wp2
        first
          | (go_region_law ((refine step_callw (by rfl) (ops_any _) ?_ ?_; (focus (go_simp; done)); rintro e w1 ⟨rfl, hb1⟩; refine ⟨_, rfl, ?_⟩; have x3 := ((bcell hb1).1 w.heap.size 3 (by simp)); have x2 := ((bcell hb1).1 w.heap.size 2 (by simp)); simp only [World.cell?_drew, World.cell?_alloc_mark] at x3 x2)))
          | fail
        all_goals
          go_wp2
          go_ret
          exact ⟨ifTells_no _, hB.drew.trans (hb1.mono hB.drew.size)⟩
  · have h2 : tx.toList.isEmpty = false := by simpa using h1
    go_enter Tryz.func16, Tryz.ntmps16
    go_wp2
    refine wp_region_quiet_C (Stay (w.alloc (.cells #[.int .i64 9, .string tx, .int .i64 op, .bool fl, u] 28))) (by kernel_rfl) (by kernel_rfl) (stay_start _) ?_
    repeat (first
      | (refine wpQ_skip (by rfl) ?_; simp only [Act.put, List.setIfInBounds_toArray, List.set_cons_zero, List.set_cons_succ])
      | (refine wpQ_value (v := ?_) (by rfl) ?_ ?_; rotate_left; (intro w hw; go_simp; done); simp only [Act.put, List.setIfInBounds_toArray, List.set_cons_zero, List.set_cons_succ])
      | (refine wpQ_value (v := ?_) (by rfl) ?_ ?_; rotate_left; (intro w hw; go_simp; with_reducible rfl); simp only [Act.put, List.setIfInBounds_toArray, List.set_cons_zero, List.set_cons_succ])
      | (refine wpQ_call (f := ?_) (args := ?_) (v := ?_) (by rfl) ?_ ?_ ?_; rotate_left 3; (intro w hw; go_simp; first | with_reducible rfl | (constructor; with_reducible rfl; with_reducible rfl)); (intro w hw; first | fail); simp only [Act.put, List.setIfInBounds_toArray, List.set_cons_zero, List.set_cons_succ]))
    refine wpQuiet_nil ?_
    intro w1 hS1
    have hB1 := hB.trans (hS1.1.mono hB.size)
    clear h1 h2
    go_wp2
    go_ret
    exact ⟨ifTells_no _, hB1⟩
theorem own_any (t : Tr) (u : Value) (hu : u.oneCell' = true) (w : World) : Calls Tryz.prog 16 #[.agg #[.int .i64 t.k, .string t.tx, .int .i64 t.op, .bool t.fl, u]] w fun e w' => IfTells (ownF t) e ∧ Below w.heap.size w w' := by
  obtain ⟨k, tx, op, fl, l⟩ := t
  by_cases h8 : k = 8
  · subst h8; exact own_ops8 tx op fl u l hu w
  · by_cases h9 : k = 9
    · subst h9; exact own_ops9 tx op fl u l hu w
    · exact own_other k tx op fl u l hu w (by simpa using h8) (by simpa using h9)
end Go.Proofs.YtlgajopaokjjaaaGreatFmt
