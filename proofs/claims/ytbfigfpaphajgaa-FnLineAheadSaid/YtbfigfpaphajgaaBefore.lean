/-
  FnBefore: that a place is ahead of another one, as the package tells it, is what the reference says of it. No condition.
-/
import Derived.Test.YtbfigfpaphajgaaKit
import Derived.Deep.RegionHeld3
namespace Go.Proofs.Ytbfigfpaphajgaa
open Go.ChangeShapes Go.WideShapes Go.ChangeAt Go.RowKit Go.Joins

theorem Try.cells23 : Try.prog.cellsOf 23 = 2 := by kernel_rfl

/-- A place that came in, opened: two numbers. -/
theorem open_place {H : Type} {enc : TypeId × Value → H} {W : World} {base : Nat} {v : Value} {d : DataW H} {ps : List MemPlace}
    (hv : Value.okWide Try.prog W .any base 23 v) (h : DataW.Trod enc Try.prog W 0 (fun _ => true) true 23 v d ps) :
    ∃ l c : Int, v = .agg #[.int .i64 l, .int .i64 c] := by
  obtain ⟨c0, c1, y0, y1, m, rfl, rfl, rfl, hy0, hy1⟩ := open_agg2 Try.underlying23 (by kernel_rfl) Try.cells23 hv h
  obtain ⟨a, e0, rfl, wa⟩ := DataW.trod_int Try.underlying3 hy0
  obtain ⟨b, e1, rfl, wb⟩ := DataW.trod_int Try.underlying3 hy1
  simp at e0 e1
  subst e0 e1
  exact ⟨a, b, rfl⟩

/-- A place is ahead of another one. -/
def bfr (al ac bl bc : Int) : Bool := decide (al < bl) || (al == bl && decide (ac < bc))

theorem place_any (l c : Int) (w : World) :
    Calls Try.prog 9 #[.agg #[.int .i64 l, .int .i64 c]] w fun e w' => e = .returned (.agg #[.int .i64 l, .int .i64 c]) ∧ Below w.heap.size w w' := by
  go_enter Try.func9, Try.ntmps9
  go_wp2
  exact bodyPost_ret (v := .agg #[.int .i64 l, .int .i64 c]) (by simp [results, Try.results9, go_sem]) rfl ⟨rfl, below_alloc2 _ _ _⟩

theorem locBefore_any (al ac bl bc : Int) (w : World) :
    Calls Try.prog 14 #[.agg #[.int .i64 al, .int .i64 ac], .agg #[.int .i64 bl, .int .i64 bc]] w fun e w' => e = .returned (.bool (bfr al ac bl bc)) ∧ Below w.heap.size w w' := by
  by_cases h1 : al = bl
  · subst h1
    have e : bfr al ac al bc = decide (ac < bc) := by simp [bfr]
    rw [e]
    go_enter Try.func14, Try.ntmps14
    go_wp2
    go_ret
    exact ⟨rfl, below_alloc2 _ _ _⟩
  · have e1 : (al == bl) = false := by rw [beq_eq_false_iff_ne]; exact h1
    have e : bfr al ac bl bc = decide (al < bl) := by simp [bfr, e1]
    rw [e]
    go_enter Try.func14, Try.ntmps14
    go_wp2
    go_ret
    exact ⟨rfl, below_alloc2 _ _ _⟩

theorem implBefore_any (al ac bl bc : Int) (w : World) :
    Calls Try.prog 7 #[.agg #[.int .i64 al, .int .i64 ac], .agg #[.int .i64 bl, .int .i64 bc]] w fun e w' => e = .returned (.bool (bfr al ac bl bc)) ∧ Below w.heap.size w w' := by
  go_enter Try.func7, Try.ntmps7
  go_wp2_with (go_at_call 14; refine (locBefore_any _ _ _ _ _).mono ?_; rintro e w' ⟨rfl, hb⟩)
  go_ret
  exact ⟨rfl, (below_alloc2 _ _ _).trans (hb.mono (by simp; omega))⟩

theorem specBefore_any (al ac bl bc : Int) (w : World) :
    Calls Try.prog 8 #[.agg #[.int .i64 al, .int .i64 ac], .agg #[.int .i64 bl, .int .i64 bc]] w fun e w' => e = .returned (.bool (bfr al ac bl bc)) ∧ Below w.heap.size w w' := by
  by_cases h0 : al < bl
  · have e : bfr al ac bl bc = true := by simp [bfr, h0]
    rw [e]
    go_enter Try.func8, Try.ntmps8
    go_wp2
    go_ret
    exact ⟨rfl, below_alloc2 _ _ _⟩
  · have d0 : decide (al < bl) = false := by simp; omega
    by_cases h1 : al = bl
    · subst h1
      have e : bfr al ac al bc = decide (ac < bc) := by simp [bfr]
      rw [e]
      have e1 : (al == al) = true := by simp
      go_enter Try.func8, Try.ntmps8
      go_wp2
      go_ret
      exact ⟨rfl, below_alloc2 _ _ _⟩
    · have e1 : (al == bl) = false := by rw [beq_eq_false_iff_ne]; exact h1
      have e : bfr al ac bl bc = false := by simp [bfr, e1, d0]
      rw [e]
      go_enter Try.func8, Try.ntmps8
      go_wp2
      go_ret
      exact ⟨rfl, below_alloc2 _ _ _⟩

theorem before_walk (al ac bl bc : Int) (W : World) :
    Calls Try.prog 3 #[.agg #[.int .i64 al, .int .i64 ac], .agg #[.int .i64 bl, .int .i64 bc]] W fun e W' => e = .returned (.bool true) ∧ Below W.heap.size W W' := by
  have ebb : (bfr al ac bl bc == bfr al ac bl bc) = true := by simp
  go_enter Try.func3, Try.ntmps3
  go_wp2
  go_region_held3 (Stay ((W.alloc (Obj.cells #[Value.int IntKind.i64 al, Value.int IntKind.i64 ac] 23)).alloc (Obj.cells #[Value.int IntKind.i64 bl, Value.int IntKind.i64 bc] 23)))
    (first | exact stay_start _ | exact stay_step (by assumption) hb)
    (first
      | (go_at_call 7; refine (implBefore_any _ _ _ _ _).mono ?_; rintro e w' ⟨rfl, hb⟩)
      | (go_at_call 8; refine (specBefore_any _ _ _ _ _).mono ?_; rintro e w' ⟨rfl, hb⟩)
      | (go_at_call 9; refine (place_any _ _ _).mono ?_; rintro e w' ⟨rfl, hb⟩))
  go_wp2
  go_ret
  exact ⟨rfl, (below_alloc2 _ _ _).trans (Below.mono (And.left (by assumption)) (by simp; omega))⟩

set_option maxRecDepth 100000 in
theorem before_holds_lifted (os : Os) (started : os.Started) (H : Type) (enc : TypeId × Value → H) :
    ReturnsInHanded {} Try.checked os 3 .any (Rows.fnBeforeSpec.pre6 enc Try.prog Try.f3 Rows.fnBeforeRow.domain false) (Rows.fnBeforeSpec.post enc Try.prog Try.f3 false true false false) :=
  law_lift (C := Try.checked) (tb := 4) 2 own started (by kernel_rfl) Try.func3
    (ChangeSpec.witness6 (enc := enc) (C := Try.checked) false ⟨#[], #[.agg #[.int .i64 0, .int .i64 0], .agg #[.int .i64 0, .int .i64 0]], []⟩ 8 (by kernel_rfl) (by kernel_rfl) (by kernel_rfl) (by kernel_rfl))
    laidOut rfl rfl Try.underlying4 (params_ok (by kernel_rfl)) rfl (fun ds h => by match ds, h with | [_, _], _ => rfl)
    (fun W base args ds ps hval0 hA0 hlt hsz0 => by
      have hA : DataW.TrodAll enc Try.prog W 0 (fun _ => true) true Try.f3.params.toList args.toList ds ps := hA0
      have hval : ∀ (j : Nat) t v, Try.f3.params[j]? = some t → args[j]? = some v → Value.okWide Try.prog W .any base t v := hval0
      have hsz : (DataW.weightsEach Try.prog Try.f3.params.toList ds).all (· ≤ reachBytes) = true := hsz0
      clear hA0 hval0 hsz0
      rw [Try.params3] at hA hval hsz
      obtain ⟨v0, v1, d0, d1, p0, p1, rfl, rfl, rfl, h0, h1⟩ := trodAll_two hA
      obtain ⟨al, ac, rfl⟩ := open_place (hval 0 23 v0 rfl rfl) h0
      obtain ⟨bl, bc, rfl⟩ := open_place (hval 1 23 v1 rfl rfl) h1
      exact before_walk al ac bl bc W)

theorem before_holds : Rows.FnBeforeSaid :=
  OpenClaim.holds_of_wide 3 Try.f3 rfl rfl rfl rfl rfl rfl rfl ⟨rfl, rfl, rfl, rfl, rfl⟩ rfl rfl rfl rfl rfl (by kernel_rfl) Try.func3 (by kernel_rfl)
    (of_decide_eq_true (by kernel_rfl)) (by unfold Func.isWrapper; first | (rw [if_pos (by decide +kernel)]; kernel_rfl) | (rw [if_neg (by decide +kernel)]; exact ⟨rfl, rfl⟩))
    (fun os started H enc _ => before_holds_lifted os started H enc)
#print axioms before_holds
end Go.Proofs.Ytbfigfpaphajgaa
