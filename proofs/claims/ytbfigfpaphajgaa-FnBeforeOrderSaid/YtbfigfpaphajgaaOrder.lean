/-
  FnBeforeOrder: of two places that are not equal just one is ahead of the other one, and what is ahead of what is ahead is so. No condition.
-/
import Derived.Test.YtbfigfpaphajgaaBefore
namespace Go.Proofs.Ytbfigfpaphajgaa
open Go.ChangeShapes Go.WideShapes Go.ChangeAt Go.RowKit Go.Joins

theorem implBefore_is (al ac bl bc : Int) (w : World) {x : Bool} (h : bfr al ac bl bc = x) :
    Calls Try.prog 7 #[.agg #[.int .i64 al, .int .i64 ac], .agg #[.int .i64 bl, .int .i64 bc]] w fun e w' => e = .returned (.bool x) ∧ Below w.heap.size w w' := by
  subst h; exact implBefore_any al ac bl bc w

theorem bfr_true {al ac bl bc : Int} : bfr al ac bl bc = true ↔ al < bl ∨ al = bl ∧ ac < bc := by simp [bfr]
theorem bfr_false {al ac bl bc : Int} : bfr al ac bl bc = false ↔ ¬ (al < bl ∨ al = bl ∧ ac < bc) := by
  rw [← bfr_true]; simp

/-- Neither is ahead: they are equal. -/
theorem order_eq (al ac bl bc cl cc : Int) (W : World) (Hx : bfr al ac bl bc = false) (Hy : bfr bl bc al ac = false) (e1 : (al == bl) = true) (e2 : (ac == bc) = true) : Calls Try.prog 4 #[.agg #[.int .i64 al, .int .i64 ac], .agg #[.int .i64 bl, .int .i64 bc], .agg #[.int .i64 cl, .int .i64 cc]] W fun e W' => e = .returned (.bool true) ∧ Below W.heap.size W W' := by
  go_enter Try.func4, Try.ntmps4
  go_wp2_with fail
  refine wp_region_quiet_C (Stay (((W.alloc (Obj.cells #[.int .i64 al, .int .i64 ac] 23)).alloc (Obj.cells #[.int .i64 bl, .int .i64 bc] 23)).alloc (Obj.cells #[.int .i64 cl, .int .i64 cc] 23))) (by kernel_rfl) (by kernel_rfl) (stay_start _) ?_
  repeat (first
    | (refine wpQ_skip (by rfl) ?_; simp only [Act.put, List.setIfInBounds_toArray, List.set_cons_zero, List.set_cons_succ])
    | (refine wpQ_value (v := ?_) (by rfl) ?_ ?_; rotate_left; (intro w hw; go_simp; done); simp only [Act.put, List.setIfInBounds_toArray, List.set_cons_zero, List.set_cons_succ])
    | (refine wpQ_value (v := ?_) (by rfl) ?_ ?_; rotate_left; (intro w hw; go_simp; with_reducible rfl); simp only [Act.put, List.setIfInBounds_toArray, List.set_cons_zero, List.set_cons_succ])
    | (refine wpQ_call (f := ?_) (args := ?_) (v := ?_) (by rfl) ?_ ?_ ?_; rotate_left 3; (intro w hw; go_simp; first | with_reducible rfl | (constructor; with_reducible rfl; with_reducible rfl)); (intro w hw; first | (refine (implBefore_is _ _ _ _ w (by assumption)).mono ?_; rintro e w'' ⟨rfl, hb⟩; constructor; with_reducible rfl; exact stay_step hw hb)); simp only [Act.put, List.setIfInBounds_toArray, List.set_cons_zero, List.set_cons_succ]))
  refine wpQuiet_nil ?_
  intro w1 hS1
  go_wp2_with (first
    | (go_at_call 7; refine (implBefore_is _ _ _ _ _ (by assumption)).mono ?_; rintro e w' ⟨rfl, hb⟩; have hS : Stay (((W.alloc (Obj.cells #[.int .i64 al, .int .i64 ac] 23)).alloc (Obj.cells #[.int .i64 bl, .int .i64 bc] 23)).alloc (Obj.cells #[.int .i64 cl, .int .i64 cc] 23)) w' := stay_step (by assumption) hb; clear hb))
  go_ret
  exact ⟨rfl, (below_alloc3 _ _ _ _).trans (Below.mono (And.left (show Stay (((W.alloc (Obj.cells #[.int .i64 al, .int .i64 ac] 23)).alloc (Obj.cells #[.int .i64 bl, .int .i64 bc] 23)).alloc (Obj.cells #[.int .i64 cl, .int .i64 cc] 23)) _ by assumption)) (by simp; omega))⟩

/-- The second is ahead. -/
theorem order_gt (al ac bl bc cl cc : Int) (W : World) (Hx : bfr al ac bl bc = false) (Hy : bfr bl bc al ac = true) (e1 : (al == bl) = false ∨ (al == bl) = true ∧ (ac == bc) = false) : Calls Try.prog 4 #[.agg #[.int .i64 al, .int .i64 ac], .agg #[.int .i64 bl, .int .i64 bc], .agg #[.int .i64 cl, .int .i64 cc]] W fun e W' => e = .returned (.bool true) ∧ Below W.heap.size W W' := by
  rcases e1 with e1 | ⟨e1, e2⟩
  all_goals
    go_enter Try.func4, Try.ntmps4
    go_wp2_with fail
    refine wp_region_quiet_C (Stay (((W.alloc (Obj.cells #[.int .i64 al, .int .i64 ac] 23)).alloc (Obj.cells #[.int .i64 bl, .int .i64 bc] 23)).alloc (Obj.cells #[.int .i64 cl, .int .i64 cc] 23))) (by kernel_rfl) (by kernel_rfl) (stay_start _) ?_
    repeat (first
      | (refine wpQ_skip (by rfl) ?_; simp only [Act.put, List.setIfInBounds_toArray, List.set_cons_zero, List.set_cons_succ])
      | (refine wpQ_value (v := ?_) (by rfl) ?_ ?_; rotate_left; (intro w hw; go_simp; done); simp only [Act.put, List.setIfInBounds_toArray, List.set_cons_zero, List.set_cons_succ])
      | (refine wpQ_value (v := ?_) (by rfl) ?_ ?_; rotate_left; (intro w hw; go_simp; with_reducible rfl); simp only [Act.put, List.setIfInBounds_toArray, List.set_cons_zero, List.set_cons_succ])
      | (refine wpQ_call (f := ?_) (args := ?_) (v := ?_) (by rfl) ?_ ?_ ?_; rotate_left 3; (intro w hw; go_simp; first | with_reducible rfl | (constructor; with_reducible rfl; with_reducible rfl)); (intro w hw; first | (refine (implBefore_is _ _ _ _ w (by assumption)).mono ?_; rintro e w'' ⟨rfl, hb⟩; constructor; with_reducible rfl; exact stay_step hw hb)); simp only [Act.put, List.setIfInBounds_toArray, List.set_cons_zero, List.set_cons_succ]))
    refine wpQuiet_nil ?_
    intro w1 hS1
    go_wp2_with (first
      | (go_at_call 7; refine (implBefore_is _ _ _ _ _ (by assumption)).mono ?_; rintro e w' ⟨rfl, hb⟩; have hS : Stay (((W.alloc (Obj.cells #[.int .i64 al, .int .i64 ac] 23)).alloc (Obj.cells #[.int .i64 bl, .int .i64 bc] 23)).alloc (Obj.cells #[.int .i64 cl, .int .i64 cc] 23)) w' := stay_step (by assumption) hb; clear hb))
    go_ret
    exact ⟨rfl, (below_alloc3 _ _ _ _).trans (Below.mono (And.left (show Stay (((W.alloc (Obj.cells #[.int .i64 al, .int .i64 ac] 23)).alloc (Obj.cells #[.int .i64 bl, .int .i64 bc] 23)).alloc (Obj.cells #[.int .i64 cl, .int .i64 cc] 23)) _ by assumption)) (by simp; omega))⟩

/-- The first is ahead of the second, which is not ahead of the third. -/
theorem order_lt0 (al ac bl bc cl cc : Int) (W : World) (Hx : bfr al ac bl bc = true) (Hy : bfr bl bc al ac = false) (Hz : bfr bl bc cl cc = false) (e1 : (al == bl) = false ∨ (al == bl) = true ∧ (ac == bc) = false) : Calls Try.prog 4 #[.agg #[.int .i64 al, .int .i64 ac], .agg #[.int .i64 bl, .int .i64 bc], .agg #[.int .i64 cl, .int .i64 cc]] W fun e W' => e = .returned (.bool true) ∧ Below W.heap.size W W' := by
  rcases e1 with e1 | ⟨e1, e2⟩
  all_goals
    go_enter Try.func4, Try.ntmps4
    go_wp2_with fail
    refine wp_region_quiet_C (Stay (((W.alloc (Obj.cells #[.int .i64 al, .int .i64 ac] 23)).alloc (Obj.cells #[.int .i64 bl, .int .i64 bc] 23)).alloc (Obj.cells #[.int .i64 cl, .int .i64 cc] 23))) (by kernel_rfl) (by kernel_rfl) (stay_start _) ?_
    repeat (first
      | (refine wpQ_skip (by rfl) ?_; simp only [Act.put, List.setIfInBounds_toArray, List.set_cons_zero, List.set_cons_succ])
      | (refine wpQ_value (v := ?_) (by rfl) ?_ ?_; rotate_left; (intro w hw; go_simp; done); simp only [Act.put, List.setIfInBounds_toArray, List.set_cons_zero, List.set_cons_succ])
      | (refine wpQ_value (v := ?_) (by rfl) ?_ ?_; rotate_left; (intro w hw; go_simp; with_reducible rfl); simp only [Act.put, List.setIfInBounds_toArray, List.set_cons_zero, List.set_cons_succ])
      | (refine wpQ_call (f := ?_) (args := ?_) (v := ?_) (by rfl) ?_ ?_ ?_; rotate_left 3; (intro w hw; go_simp; first | with_reducible rfl | (constructor; with_reducible rfl; with_reducible rfl)); (intro w hw; first | (refine (implBefore_is _ _ _ _ w (by assumption)).mono ?_; rintro e w'' ⟨rfl, hb⟩; constructor; with_reducible rfl; exact stay_step hw hb)); simp only [Act.put, List.setIfInBounds_toArray, List.set_cons_zero, List.set_cons_succ]))
    refine wpQuiet_nil ?_
    intro w1 hS1
    go_wp2_with (first
      | (go_at_call 7; refine (implBefore_is _ _ _ _ _ (by assumption)).mono ?_; rintro e w' ⟨rfl, hb⟩; have hS : Stay (((W.alloc (Obj.cells #[.int .i64 al, .int .i64 ac] 23)).alloc (Obj.cells #[.int .i64 bl, .int .i64 bc] 23)).alloc (Obj.cells #[.int .i64 cl, .int .i64 cc] 23)) w' := stay_step (by assumption) hb; clear hb))
    go_ret
    exact ⟨rfl, (below_alloc3 _ _ _ _).trans (Below.mono (And.left (show Stay (((W.alloc (Obj.cells #[.int .i64 al, .int .i64 ac] 23)).alloc (Obj.cells #[.int .i64 bl, .int .i64 bc] 23)).alloc (Obj.cells #[.int .i64 cl, .int .i64 cc] 23)) _ by assumption)) (by simp; omega))⟩

/-- All three in order. -/
theorem order_lt1 (al ac bl bc cl cc : Int) (W : World) (Hx : bfr al ac bl bc = true) (Hy : bfr bl bc al ac = false) (Hz : bfr bl bc cl cc = true) (Hu : bfr al ac cl cc = true) (e1 : (al == bl) = false ∨ (al == bl) = true ∧ (ac == bc) = false) : Calls Try.prog 4 #[.agg #[.int .i64 al, .int .i64 ac], .agg #[.int .i64 bl, .int .i64 bc], .agg #[.int .i64 cl, .int .i64 cc]] W fun e W' => e = .returned (.bool true) ∧ Below W.heap.size W W' := by
  rcases e1 with e1 | ⟨e1, e2⟩
  all_goals
    go_enter Try.func4, Try.ntmps4
    go_wp2_with fail
    refine wp_region_quiet_C (Stay (((W.alloc (Obj.cells #[.int .i64 al, .int .i64 ac] 23)).alloc (Obj.cells #[.int .i64 bl, .int .i64 bc] 23)).alloc (Obj.cells #[.int .i64 cl, .int .i64 cc] 23))) (by kernel_rfl) (by kernel_rfl) (stay_start _) ?_
    repeat (first
      | (refine wpQ_skip (by rfl) ?_; simp only [Act.put, List.setIfInBounds_toArray, List.set_cons_zero, List.set_cons_succ])
      | (refine wpQ_value (v := ?_) (by rfl) ?_ ?_; rotate_left; (intro w hw; go_simp; done); simp only [Act.put, List.setIfInBounds_toArray, List.set_cons_zero, List.set_cons_succ])
      | (refine wpQ_value (v := ?_) (by rfl) ?_ ?_; rotate_left; (intro w hw; go_simp; with_reducible rfl); simp only [Act.put, List.setIfInBounds_toArray, List.set_cons_zero, List.set_cons_succ])
      | (refine wpQ_call (f := ?_) (args := ?_) (v := ?_) (by rfl) ?_ ?_ ?_; rotate_left 3; (intro w hw; go_simp; first | with_reducible rfl | (constructor; with_reducible rfl; with_reducible rfl)); (intro w hw; first | (refine (implBefore_is _ _ _ _ w (by assumption)).mono ?_; rintro e w'' ⟨rfl, hb⟩; constructor; with_reducible rfl; exact stay_step hw hb)); simp only [Act.put, List.setIfInBounds_toArray, List.set_cons_zero, List.set_cons_succ]))
    refine wpQuiet_nil ?_
    intro w1 hS1
    go_wp2_with (first
      | (go_at_call 7; refine (implBefore_is _ _ _ _ _ (by assumption)).mono ?_; rintro e w' ⟨rfl, hb⟩; have hS : Stay (((W.alloc (Obj.cells #[.int .i64 al, .int .i64 ac] 23)).alloc (Obj.cells #[.int .i64 bl, .int .i64 bc] 23)).alloc (Obj.cells #[.int .i64 cl, .int .i64 cc] 23)) w' := stay_step (by assumption) hb; clear hb))
    go_ret
    exact ⟨rfl, (below_alloc3 _ _ _ _).trans (Below.mono (And.left (show Stay (((W.alloc (Obj.cells #[.int .i64 al, .int .i64 ac] 23)).alloc (Obj.cells #[.int .i64 bl, .int .i64 bc] 23)).alloc (Obj.cells #[.int .i64 cl, .int .i64 cc] 23)) _ by assumption)) (by simp; omega))⟩

theorem order_walk (al ac bl bc cl cc : Int) (W : World) : Calls Try.prog 4 #[.agg #[.int .i64 al, .int .i64 ac], .agg #[.int .i64 bl, .int .i64 bc], .agg #[.int .i64 cl, .int .i64 cc]] W fun e W' => e = .returned (.bool true) ∧ Below W.heap.size W W' := by
  cases hx : bfr al ac bl bc
  · cases hy : bfr bl bc al ac
    · rw [bfr_false] at hx hy
      have e1 : al = bl := by omega
      have e2 : ac = bc := by omega
      subst e1 e2
      exact order_eq al ac al ac cl cc W (by rw [bfr_false]; omega) (by rw [bfr_false]; omega) (by simp) (by simp)
    · refine order_gt al ac bl bc cl cc W hx hy ?_
      rw [bfr_true] at hy
      by_cases e : al = bl
      · exact Or.inr ⟨by simpa using e, by rw [beq_eq_false_iff_ne]; omega⟩
      · exact Or.inl (by rw [beq_eq_false_iff_ne]; exact e)
  · have hy : bfr bl bc al ac = false := by
      rw [bfr_true] at hx
      rw [bfr_false]
      omega
    have hne : (al == bl) = false ∨ (al == bl) = true ∧ (ac == bc) = false := by
      rw [bfr_true] at hx
      by_cases e : al = bl
      · exact Or.inr ⟨by simpa using e, by rw [beq_eq_false_iff_ne]; omega⟩
      · exact Or.inl (by rw [beq_eq_false_iff_ne]; exact e)
    cases hz : bfr bl bc cl cc
    · exact order_lt0 al ac bl bc cl cc W hx hy hz hne
    · have hu : bfr al ac cl cc = true := by
        rw [bfr_true] at *
        omega
      exact order_lt1 al ac bl bc cl cc W hx hy hz hu hne

set_option maxRecDepth 100000 in
theorem order_holds_lifted (os : Os) (started : os.Started) (H : Type) (enc : TypeId × Value → H) :
    ReturnsInHanded {} Try.checked os 4 .any (Rows.fnBeforeOrderSpec.pre6 enc Try.prog Try.f4 Rows.fnBeforeOrderRow.domain false) (Rows.fnBeforeOrderSpec.post enc Try.prog Try.f4 false true false false) :=
  law_lift (C := Try.checked) (tb := 4) 3 own started (by kernel_rfl) Try.func4
    (ChangeSpec.witness6 (enc := enc) (C := Try.checked) false ⟨#[], #[.agg #[.int .i64 0, .int .i64 0], .agg #[.int .i64 0, .int .i64 0], .agg #[.int .i64 0, .int .i64 0]], []⟩ 8 (by kernel_rfl) (by kernel_rfl) (by kernel_rfl) (by kernel_rfl))
    laidOut rfl rfl Try.underlying4 (params_ok (by kernel_rfl)) rfl (fun ds h => by match ds, h with | [_, _, _], _ => rfl)
    (fun W base args ds ps hval0 hA0 hlt hsz0 => by
      have hA : DataW.TrodAll enc Try.prog W 0 (fun _ => true) true Try.f4.params.toList args.toList ds ps := hA0
      have hval : ∀ (j : Nat) t v, Try.f4.params[j]? = some t → args[j]? = some v → Value.okWide Try.prog W .any base t v := hval0
      have hsz : (DataW.weightsEach Try.prog Try.f4.params.toList ds).all (· ≤ reachBytes) = true := hsz0
      clear hA0 hval0 hsz0
      rw [Try.params4] at hA hval hsz
      obtain ⟨v0, v1, v2, d0, d1, d2, p0, p1, p2, rfl, rfl, rfl, h0, h1, h2⟩ := trodAll_three hA
      obtain ⟨al, ac, rfl⟩ := open_place (hval 0 23 v0 rfl rfl) h0
      obtain ⟨bl, bc, rfl⟩ := open_place (hval 1 23 v1 rfl rfl) h1
      obtain ⟨cl, cc, rfl⟩ := open_place (hval 2 23 v2 rfl rfl) h2
      exact order_walk al ac bl bc cl cc W)

theorem order_holds : Rows.FnBeforeOrderSaid :=
  OpenClaim.holds_of_wide 4 Try.f4 rfl rfl rfl rfl rfl rfl rfl ⟨rfl, rfl, rfl, rfl, rfl⟩ rfl rfl rfl rfl rfl (by kernel_rfl) Try.func4 (by kernel_rfl)
    (of_decide_eq_true (by kernel_rfl)) (by unfold Func.isWrapper; first | (rw [if_pos (by decide +kernel)]; kernel_rfl) | (rw [if_neg (by decide +kernel)]; exact ⟨rfl, rfl⟩))
    (fun os started H enc _ => order_holds_lifted os started H enc)
#print axioms order_holds
end Go.Proofs.Ytbfigfpaphajgaa
