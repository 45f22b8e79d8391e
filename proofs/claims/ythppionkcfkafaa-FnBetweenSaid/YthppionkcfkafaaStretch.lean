/-
  Stretches: laws.stretch, impl.stretch, impl.span, spec.Small; an argument reads as a stretch. No condition.
-/
import Derived.Test.YthppionkcfkafaaPlace
namespace Go.Proofs.Ythppionkcfkafaa
open Go.ChangeShapes Go.WideShapes Go.ChangeAt Go.RowKit Go.Joins

theorem stretch_any (a b c d : Int) (w : World) :
    Calls Try.prog 4 #[.agg #[.int .i64 a, .int .i64 b, .int .i64 c, .int .i64 d]] w fun e w' => e = .returned (.agg #[.int .i64 a, .int .i64 b, .int .i64 c, .int .i64 d]) ∧ Below w.heap.size w w' := by
  have S0 := stayRow_new (w.alloc (.cells #[.int .i64 a, .int .i64 b, .int .i64 c, .int .i64 d] 25)) #[.int .i64 0, .int .i64 0, .int .i64 0, .int .i64 0] 28 (w.heap.size + 1) 4 (by simp) rfl
  have H0 := Lib.hid S0; clear S0
  go_enter Try.func4, Try.ntmps4
  go_wp2
  go_region_held3 (StayRow (w.alloc (Obj.cells #[.int .i64 a, .int .i64 b, .int .i64 c, .int .i64 d] 25)) (w.heap.size + 1) 4)
    (first
      | (exact H0.out)
      | (with_reducible exact stayRow_step (by assumption) hb (by decide))
      | ((repeat (with_reducible refine stayRow_set ?_ (by simp) _)); with_reducible assumption))
    (first
      | (go_at_call 8; refine (place_any _ _ _).mono ?_; rintro e w' ⟨rfl, hb⟩))
  rename_i hH
  obtain ⟨r0, r1, r2, r3⟩ := row4 hH
  have hB := (below_alloc1 w (.cells #[.int .i64 a, .int .i64 b, .int .i64 c, .int .i64 d] 25)).trans (hH.1.1.mono (by simp))
  clear hH
  go_wp2
  exact bodyPost_ret (v := .agg #[.int .i64 a, .int .i64 b, .int .i64 c, .int .i64 d]) (by simp [results, Try.results4, go_sem, r0, r1, r2, r3]) rfl ⟨rfl, hB⟩
theorem implStretch_any (u v : Value) (pu : ∃ q, u = .pointer q) (pv : ∃ s, v = .string s) (a b c d : Int) (w : World) :
    Calls Try.prog 10 #[.agg #[u, v, .int .i64 a, .int .i64 b, .int .i64 c, .int .i64 d]] w fun e w' => e = .returned (.agg #[.int .i64 a, .int .i64 b, .int .i64 c, .int .i64 d]) ∧ Below w.heap.size w w' := by
  obtain ⟨q, rfl⟩ := pu
  obtain ⟨s, rfl⟩ := pv
  go_enter Try.func10, Try.ntmps10
  go_wp2
  exact bodyPost_ret (v := .agg #[.int .i64 a, .int .i64 b, .int .i64 c, .int .i64 d]) (by simp [results, Try.results10, go_sem]) rfl ⟨rfl, below_alloc2 _ _ _⟩

theorem span_any (a b c d : Int) (w : World) :
    Calls Try.prog 9 #[.agg #[.int .i64 a, .int .i64 b, .int .i64 c, .int .i64 d]] w fun e w' => e = .returned (.agg #[.pointer none, .string ByteArray.empty, .int .i64 a, .int .i64 b, .int .i64 c, .int .i64 d]) ∧ Below w.heap.size w w' := by
  go_enter Try.func9, Try.ntmps9
  go_wp2
  exact bodyPost_ret (v := .agg #[.pointer none, .string ByteArray.empty, .int .i64 a, .int .i64 b, .int .i64 c, .int .i64 d]) (by simp [results, Try.results9, go_sem]; rfl) rfl ⟨rfl, below_alloc2 _ _ _⟩

/-- A place's numbers are not too great. -/
def sml (l c : Int) : Bool := (decide (0 ≤ l) && decide (l ≤ 1073741824)) && (decide (0 ≤ c) && decide (c ≤ 1073741824))

theorem small_any (l c : Int) (w : World) :
    Calls Try.prog 5 #[.agg #[.int .i64 l, .int .i64 c]] w fun e w' => e = .returned (.bool (sml l c)) ∧ Below w.heap.size w w' := by
  by_cases h1 : 0 ≤ l
  · by_cases h2 : l ≤ 1073741824
    · by_cases h3 : 0 ≤ c
      · have e : sml l c = decide (c ≤ 1073741824) := by simp [sml, h1, h2, h3]
        rw [e]
        go_enter Try.func5, Try.ntmps5
        go_wp2
        go_ret
        exact ⟨rfl, below_alloc1 _ _⟩
      · have e : sml l c = false := by simp [sml, h3]
        rw [e]
        go_enter Try.func5, Try.ntmps5
        go_wp2
        go_ret
        exact ⟨rfl, below_alloc1 _ _⟩
    · have e : sml l c = false := by simp [sml, h2]
      rw [e]
      go_enter Try.func5, Try.ntmps5
      go_wp2
      go_ret
      exact ⟨rfl, below_alloc1 _ _⟩
  · have e : sml l c = false := by simp [sml, h1]
    rw [e]
    go_enter Try.func5, Try.ntmps5
    go_wp2
    go_ret
    exact ⟨rfl, below_alloc1 _ _⟩

theorem small_is (l c : Int) (w : World) {x : Bool} (h : sml l c = x) :
    Calls Try.prog 5 #[.agg #[.int .i64 l, .int .i64 c]] w fun e w' => e = .returned (.bool x) ∧ Below w.heap.size w w' := by
  subst h; exact small_any l c w

theorem Try.cells25 : Try.prog.cellsOf 25 = 4 := by kernel_rfl
set_option maxRecDepth 100000 in
/-- A stretch that came in, opened: four numbers. -/
theorem open_stretch {H : Type} {enc : TypeId × Value → H} {W : World} {base : Nat} {v : Value} {d : DataW H} {ps : List MemPlace}
    (hv : Value.okWide Try.prog W .any base 25 v) (h : DataW.Trod enc Try.prog W 0 (fun _ => true) true 25 v d ps) :
    ∃ a b c d : Int, v = .agg #[.int .i64 a, .int .i64 b, .int .i64 c, .int .i64 d] := by
  obtain ⟨cs, rfl, hsz⟩ := okWide_struct Try.underlying25 hv
  obtain ⟨c0, c1, c2, c3, rfl⟩ := array4 (hsz.trans Try.cells25)
  obtain ⟨fuel, hf⟩ := h
  obtain ⟨y0, y1, n, hx, _, h0, h1⟩ := trod_struct2 Try.underlying25 hf
  obtain ⟨z0, z1, n0, _, _, k0, k1⟩ := trod_struct2 Try.underlying23 h0
  obtain ⟨z2, z3, n1, _, _, k2, k3⟩ := trod_struct2 Try.underlying23 h1
  have one : Try.prog.cellsOf 3 = 1 := by kernel_rfl
  simp [Value.cells, Try.cells23, one] at k0 k1 k2 k3
  obtain ⟨a, e0, _, _⟩ := DataW.trod_int Try.underlying3 k0
  obtain ⟨b, e1, _, _⟩ := DataW.trod_int Try.underlying3 k1
  obtain ⟨c, e2, _, _⟩ := DataW.trod_int Try.underlying3 k2
  obtain ⟨d, e3, _, _⟩ := DataW.trod_int Try.underlying3 k3
  simp at e0 e1 e2 e3
  subst e0 e1 e2 e3
  exact ⟨a, b, c, d, rfl⟩

end Go.Proofs.Ythppionkcfkafaa
