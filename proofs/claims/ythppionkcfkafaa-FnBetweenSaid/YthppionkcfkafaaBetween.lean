/-
  FnBetween: from a stretch to one that neither begins nor ends ahead of it, both are contained. No condition.
-/
import Derived.Test.YthppionkcfkafaaStretch
namespace Go.Proofs.Ythppionkcfkafaa
open Go.ChangeShapes Go.WideShapes Go.ChangeAt Go.RowKit Go.Joins

theorem makeRange_any (s : ByteArray) (f : Option Addr) (a b c d : Int) (w : World) :
    Calls Try.prog 12 #[.string s, .pointer f, .agg #[.int .i64 a, .int .i64 b], .agg #[.int .i64 c, .int .i64 d]] w fun e w' => e = .returned (.agg #[.pointer f, .string s, .int .i64 a, .int .i64 b, .int .i64 c, .int .i64 d]) ∧ Below w.heap.size w w' := by
  go_enter Try.func12, Try.ntmps12
  go_wp2
  exact bodyPost_ret (v := .agg #[.pointer f, .string s, .int .i64 a, .int .i64 b, .int .i64 c, .int .i64 d]) (by simp [results, Try.results12, go_sem]) rfl ⟨rfl, below_alloc3 _ _ _ _⟩

theorem rangeBetween_any (g k : Nat) (s : ByteArray) (a b c d : Int) (w : World) (hg : g < w.heap.size) (hk : k < w.heap.size)
    (c0 : w.cell? ⟨g, 0, none⟩ = some (.pointer none)) (c1 : w.cell? ⟨g, 1, none⟩ = some (.string s)) (c2 : w.cell? ⟨g, 2, none⟩ = some (.int .i64 a)) (c3 : w.cell? ⟨g, 3, none⟩ = some (.int .i64 b))
    (k0 : w.cell? ⟨k, 0, none⟩ = some (.pointer none)) (k4 : w.cell? ⟨k, 4, none⟩ = some (.int .i64 c)) (k5 : w.cell? ⟨k, 5, none⟩ = some (.int .i64 d)) :
    Calls Try.prog 11 #[.pointer (some ⟨g, 0, none⟩), .pointer (some ⟨k, 0, none⟩)] w fun e w' => e = .returned (.agg #[.pointer none, .string s, .int .i64 a, .int .i64 b, .int .i64 c, .int .i64 d]) ∧ Below w.heap.size w w' := by
  have S0 := stayRow_new w #[.pointer none, .string ByteArray.empty, .int .i64 0, .int .i64 0, .int .i64 0, .int .i64 0] 39 w.heap.size 6 rfl rfl
  have H0 := Lib.hid S0; clear S0
  go_enter Try.func11, Try.ntmps11
  go_wp2_with fail
  refine wp_region_quiet_C (StayRow w w.heap.size 6) (by kernel_rfl) (by kernel_rfl) (H0.out) ?_
  repeat (first
    | (refine wpQ_skip (by rfl) ?_; simp only [Act.put, List.setIfInBounds_toArray, List.set_cons_zero, List.set_cons_succ])
    | (refine wpQ_value (v := ?_) (by rfl) ?_ ?_; rotate_left; (intro w hw; go_simp; done); simp only [Act.put, List.setIfInBounds_toArray, List.set_cons_zero, List.set_cons_succ])
    | (refine wpQ_value (v := ?_) (by rfl) ?_ ?_; rotate_left; (intro w hw; go_simp; with_reducible rfl); simp only [Act.put, List.setIfInBounds_toArray, List.set_cons_zero, List.set_cons_succ])
    | (refine wpQ_call (f := ?_) (args := ?_) (v := ?_) (by rfl) ?_ ?_ ?_; rotate_left 3; (intro w hw; go_simp; first | with_reducible rfl | (constructor; with_reducible rfl; with_reducible rfl)); (intro w hw; first | fail); simp only [Act.put, List.setIfInBounds_toArray, List.set_cons_zero, List.set_cons_succ]))
  refine wpQuiet_nil ?_
  intro w1 hS1
  clear H0
  go_wp2_with fail
  go_region_held3 (StayRow w w.heap.size 6)
    (first
      | (with_reducible exact stayRow_drew (by assumption))
      | ((with_reducible refine stayRow_set ?_ (by simp) _); (repeat (with_reducible refine stayRow_set ?_ (by simp) _)); with_reducible assumption)
      | (with_reducible exact stayRow_step (by assumption) hb (by decide)))
    (first
      | (go_at_call 12; refine (makeRange_any _ _ _ _ _ _ _).mono ?_; rintro e w' ⟨rfl, hb⟩))
  rename_i hH
  obtain ⟨r0, r1, r2, r3, r4, r5⟩ := row6 hH
  have hB := hH.1.1
  clear hH c0 c1 c2 c3 k0 k4 k5 hS1
  go_wp2_with fail
  exact bodyPost_ret (v := .agg #[.pointer none, .string s, .int .i64 a, .int .i64 b, .int .i64 c, .int .i64 d]) (by simp [results, Try.results11, go_sem, r0, r1, r2, r3, r4, r5]) rfl ⟨rfl, hB⟩

theorem span_exact (a b c d : Int) (w : World) :
    Calls Try.prog 9 #[.agg #[.int .i64 a, .int .i64 b, .int .i64 c, .int .i64 d]] w fun e w' => e = .returned (.agg #[.pointer none, .string ByteArray.empty, .int .i64 a, .int .i64 b, .int .i64 c, .int .i64 d]) ∧
      (w.alloc (.cells #[.int .i64 a, .int .i64 b, .int .i64 c, .int .i64 d] 25)).alloc (.cells #[.pointer none, .string ByteArray.empty, .int .i64 a, .int .i64 b, .int .i64 c, .int .i64 d] 39) = w' := by
  go_enter Try.func9, Try.ntmps9
  go_wp2
  exact bodyPost_ret (v := .agg #[.pointer none, .string ByteArray.empty, .int .i64 a, .int .i64 b, .int .i64 c, .int .i64 d]) (by simp [results, Try.results9, go_sem]; rfl) rfl ⟨rfl, rfl⟩

set_option maxHeartbeats 4000000 in
theorem between_any (a b c d p q r s : Int) (w : World) :
    Calls Try.prog 7 #[.agg #[.int .i64 a, .int .i64 b, .int .i64 c, .int .i64 d], .agg #[.int .i64 p, .int .i64 q, .int .i64 r, .int .i64 s]] w fun e w' => e = .returned (.agg #[.int .i64 a, .int .i64 b, .int .i64 r, .int .i64 s]) ∧ Below w.heap.size w w' := by
  have S0 := stayRow_base ((w.alloc (Obj.cells #[Value.int IntKind.i64 a, Value.int IntKind.i64 b, Value.int IntKind.i64 c, Value.int IntKind.i64 d] 25)).alloc (Obj.cells #[Value.int IntKind.i64 p, Value.int IntKind.i64 q, Value.int IntKind.i64 r, Value.int IntKind.i64 s] 25)) #[.int .i64 0, .int .i64 0, .int .i64 0, .int .i64 0] 25 (w.heap.size + 1 + 1) 4 (by simp) rfl
  have H0 := Lib.hid S0; clear S0
  go_enter Try.func7, Try.ntmps7
  go_wp2_with fail
  go_region_held3 (StayRow ((w.alloc (Obj.cells #[Value.int IntKind.i64 a, Value.int IntKind.i64 b, Value.int IntKind.i64 c, Value.int IntKind.i64 d] 25)).alloc (Obj.cells #[Value.int IntKind.i64 p, Value.int IntKind.i64 q, Value.int IntKind.i64 r, Value.int IntKind.i64 s] 25)) (w.heap.size + 1 + 1) 4)
    (((with_reducible refine stayRow_drew ?_); (repeat (first | (with_reducible exact H0.out) | (with_reducible refine stayRow_alloc ?_ (by decide) _)))))
    (first
      | (go_at_call 9; with_reducible refine (span_exact _ _ _ _ _).mono ?_; rintro e w' ⟨rfl, rfl⟩))
  all_goals
    rename_i hH
    clear H0
    go_wp2_with fail
    refine (rangeBetween_any _ _ ByteArray.empty a b r s _ (by go_simp <;> omega) (by go_simp <;> omega) (by go_simp) (by go_simp) (by go_simp) (by go_simp) (by go_simp) (by go_simp) (by go_simp)).mono ?_
    rintro e w1 ⟨rfl, hb1⟩
    have h1 := stayRow_step hH hb1 (by decide)
    clear hH hb1
    go_wp2_with fail
    refine (implStretch_any _ _ ⟨_, rfl⟩ ⟨_, rfl⟩ _ _ _ _ _).mono ?_
    rintro e w2 ⟨rfl, hb2⟩
    have h2 := stayRow_step h1 hb2 (by decide)
    clear h1 hb2
    have hB := (below_alloc2 w (.cells #[.int .i64 a, .int .i64 b, .int .i64 c, .int .i64 d] 25) (.cells #[.int .i64 p, .int .i64 q, .int .i64 r, .int .i64 s] 25)).trans (h2.1.1.mono (by simp; omega))
    obtain ⟨r0, r1, r2, r3⟩ := row4f h2.2 (.int .i64 a) (.int .i64 b) (.int .i64 r) (.int .i64 s)
    go_wp2_with fail
    exact bodyPost_ret (v := .agg #[.int .i64 a, .int .i64 b, .int .i64 r, .int .i64 s]) (by simp [results, Try.results7, go_sem, r0, r1, r2, r3]) rfl ⟨rfl, (((hB.setCell (by simp; omega) _).setCell (by simp; omega) _).setCell (by simp; omega) _).setCell (by simp; omega) _⟩

theorem place_exact (l c : Int) (w : World) :
    Calls Try.prog 8 #[.agg #[.int .i64 l, .int .i64 c]] w fun e w' => e = .returned (.agg #[.int .i64 l, .int .i64 c]) ∧
      (w.alloc (.cells #[.int .i64 l, .int .i64 c] 23)).alloc (.cells #[.int .i64 l, .int .i64 c] 26) = w' := by
  go_enter Try.func8, Try.ntmps8
  go_wp2
  exact bodyPost_ret (v := .agg #[.int .i64 l, .int .i64 c]) (by simp [results, Try.results8, go_sem]) rfl ⟨rfl, rfl⟩

theorem stretch_exact (a b c d : Int) (w : World) :
    Calls Try.prog 4 #[.agg #[.int .i64 a, .int .i64 b, .int .i64 c, .int .i64 d]] w fun e w' => e = .returned (.agg #[.int .i64 a, .int .i64 b, .int .i64 c, .int .i64 d]) ∧
      ((((((w.alloc (.cells #[.int .i64 a, .int .i64 b, .int .i64 c, .int .i64 d] 25)).alloc (.cells #[.int .i64 a, .int .i64 b, .int .i64 c, .int .i64 d] 28)).alloc (.cells #[.int .i64 a, .int .i64 b] 23)).alloc (.cells #[.int .i64 a, .int .i64 b] 26)).alloc (.cells #[.int .i64 c, .int .i64 d] 23)).alloc (.cells #[.int .i64 c, .int .i64 d] 26)).drew = w' := by
  go_enter Try.func4, Try.ntmps4
  go_wp2
  go_region_held3 (Stay (w.alloc (Obj.cells #[.int .i64 a, .int .i64 b, .int .i64 c, .int .i64 d] 25)))
    (((with_reducible refine stay_drew ?_); (repeat (first | (with_reducible exact stay_of (Below.refl _ _)) | (with_reducible refine stay_alloc ?_ _)))))
    (first
      | (go_at_call 8; with_reducible refine (place_exact _ _ _).mono ?_; rintro e w' ⟨rfl, rfl⟩))
  rename_i hH
  clear hH
  go_wp2
  exact bodyPost_ret (v := .agg #[.int .i64 a, .int .i64 b, .int .i64 c, .int .i64 d]) (by simp [results, Try.results4, go_sem]) rfl ⟨rfl, rfl⟩

end Go.Proofs.Ythppionkcfkafaa
