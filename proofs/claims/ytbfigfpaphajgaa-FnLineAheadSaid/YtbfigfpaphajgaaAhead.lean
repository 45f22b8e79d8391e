/-
  FnLineAhead: what is ahead of a stretch in its line ends where it begins, and begins in that line, not behind its first column. No condition.
-/
import Derived.Test.YtbfigfpaphajgaaBefore
namespace Go.Proofs.Ytbfigfpaphajgaa
open Go.ChangeShapes Go.WideShapes Go.ChangeAt Go.RowKit Go.Joins

theorem stretch_any (a b c d : Int) (w : World) :
    Calls Try.prog 10 #[.agg #[.int .i64 a, .int .i64 b, .int .i64 c, .int .i64 d]] w fun e w' => e = .returned (.agg #[.int .i64 a, .int .i64 b, .int .i64 c, .int .i64 d]) ∧ Below w.heap.size w w' := by
  have S0 := stayRow_new (w.alloc (.cells #[.int .i64 a, .int .i64 b, .int .i64 c, .int .i64 d] 30)) #[.int .i64 0, .int .i64 0, .int .i64 0, .int .i64 0] 32 (w.heap.size + 1) 4 (by simp) rfl
  have H0 := Lib.hid S0; clear S0
  go_enter Try.func10, Try.ntmps10
  go_wp2
  go_region_held3 (StayRow (w.alloc (Obj.cells #[.int .i64 a, .int .i64 b, .int .i64 c, .int .i64 d] 30)) (w.heap.size + 1) 4)
    (first
      | (exact H0.out)
      | (with_reducible exact stayRow_step (by assumption) hb (by decide))
      | ((repeat (with_reducible refine stayRow_set ?_ (by simp) _)); with_reducible assumption))
    (first
      | (go_at_call 9; refine (place_any _ _ _).mono ?_; rintro e w' ⟨rfl, hb⟩))
  rename_i hH
  obtain ⟨r0, r1, r2, r3⟩ := row4 hH
  have hB := (below_alloc1 w (.cells #[.int .i64 a, .int .i64 b, .int .i64 c, .int .i64 d] 30)).trans (hH.1.1.mono (by simp))
  clear hH
  go_wp2
  exact bodyPost_ret (v := .agg #[.int .i64 a, .int .i64 b, .int .i64 c, .int .i64 d]) (by simp [results, Try.results10, go_sem, r0, r1, r2, r3]) rfl ⟨rfl, hB⟩
theorem implStretch_any (u v : Value) (pu : ∃ q, u = .pointer q) (pv : ∃ s, v = .string s) (a b c d : Int) (w : World) :
    Calls Try.prog 16 #[.agg #[u, v, .int .i64 a, .int .i64 b, .int .i64 c, .int .i64 d]] w fun e w' => e = .returned (.agg #[.int .i64 a, .int .i64 b, .int .i64 c, .int .i64 d]) ∧ Below w.heap.size w w' := by
  obtain ⟨q, rfl⟩ := pu
  obtain ⟨s, rfl⟩ := pv
  go_enter Try.func16, Try.ntmps16
  go_wp2
  exact bodyPost_ret (v := .agg #[.int .i64 a, .int .i64 b, .int .i64 c, .int .i64 d]) (by simp [results, Try.results16, go_sem]) rfl ⟨rfl, below_alloc2 _ _ _⟩

theorem span_any (a b c d : Int) (w : World) :
    Calls Try.prog 15 #[.agg #[.int .i64 a, .int .i64 b, .int .i64 c, .int .i64 d]] w fun e w' => e = .returned (.agg #[.pointer none, .string ByteArray.empty, .int .i64 a, .int .i64 b, .int .i64 c, .int .i64 d]) ∧ Below w.heap.size w w' := by
  go_enter Try.func15, Try.ntmps15
  go_wp2
  exact bodyPost_ret (v := .agg #[.pointer none, .string ByteArray.empty, .int .i64 a, .int .i64 b, .int .i64 c, .int .i64 d]) (by simp [results, Try.results15, go_sem]; rfl) rfl ⟨rfl, below_alloc2 _ _ _⟩

/-- A place's numbers are not too great. -/
def sml (l c : Int) : Bool := (decide (0 ≤ l) && decide (l ≤ 1073741824)) && (decide (0 ≤ c) && decide (c ≤ 1073741824))

theorem small_any (l c : Int) (w : World) :
    Calls Try.prog 11 #[.agg #[.int .i64 l, .int .i64 c]] w fun e w' => e = .returned (.bool (sml l c)) ∧ Below w.heap.size w w' := by
  by_cases h1 : 0 ≤ l
  · by_cases h2 : l ≤ 1073741824
    · by_cases h3 : 0 ≤ c
      · have e : sml l c = decide (c ≤ 1073741824) := by simp [sml, h1, h2, h3]
        rw [e]
        go_enter Try.func11, Try.ntmps11
        go_wp2
        go_ret
        exact ⟨rfl, below_alloc1 _ _⟩
      · have e : sml l c = false := by simp [sml, h3]
        rw [e]
        go_enter Try.func11, Try.ntmps11
        go_wp2
        go_ret
        exact ⟨rfl, below_alloc1 _ _⟩
    · have e : sml l c = false := by simp [sml, h2]
      rw [e]
      go_enter Try.func11, Try.ntmps11
      go_wp2
      go_ret
      exact ⟨rfl, below_alloc1 _ _⟩
  · have e : sml l c = false := by simp [sml, h1]
    rw [e]
    go_enter Try.func11, Try.ntmps11
    go_wp2
    go_ret
    exact ⟨rfl, below_alloc1 _ _⟩

theorem small_is (l c : Int) (w : World) {x : Bool} (h : sml l c = x) :
    Calls Try.prog 11 #[.agg #[.int .i64 l, .int .i64 c]] w fun e w' => e = .returned (.bool x) ∧ Below w.heap.size w w' := by
  subst h; exact small_any l c w

theorem lineBeginning_any (g : Nat) (f : Option Addr) (s : ByteArray) (a b : Int) (w : World) (hg : g < w.heap.size)
    (c0 : w.cell? ⟨g, 0, none⟩ = some (.pointer f)) (c1 : w.cell? ⟨g, 1, none⟩ = some (.string s)) (c2 : w.cell? ⟨g, 2, none⟩ = some (.int .i64 a)) (c3 : w.cell? ⟨g, 3, none⟩ = some (.int .i64 b)) :
    Calls Try.prog 17 #[.pointer (some ⟨g, 0, none⟩)] w fun e w' => e = .returned (.agg #[.pointer f, .string s, .int .i64 a, .int .i64 1, .int .i64 a, .int .i64 b]) ∧ Below w.heap.size w w' := by
  go_enter Try.func17, Try.ntmps17
  go_wp2
  go_region_held3 (Stay w)
    (first
      | (exact stay_drew (stay_alloc (stay_of (Below.refl _ _)) _)))
    (fail)
  clear c0 c1 c2 c3
  go_wp2
  exact bodyPost_ret (v := .agg #[.pointer f, .string s, .int .i64 a, .int .i64 1, .int .i64 a, .int .i64 b]) (by simp [results, Try.results17, go_sem]) rfl ⟨rfl, (below_alloc1 _ _).drew⟩

theorem lineAhead_any (a b c d : Int) (w : World) :
    Calls Try.prog 12 #[.agg #[.int .i64 a, .int .i64 b, .int .i64 c, .int .i64 d]] w fun e w' => e = .returned (.agg #[.int .i64 a, .int .i64 1, .int .i64 a, .int .i64 b]) ∧ Below w.heap.size w w' := by
  go_enter Try.func12, Try.ntmps12
  go_wp2_with (first
    | (go_at_call 15; refine (span_any _ _ _ _ _).mono ?_; rintro e w1 ⟨rfl, hb1⟩; have hB1 := (below_alloc2 w _ _).trans (hb1.mono (by simp; omega)); have hz1 := hb1.size; simp at hz1; have hr := hasRow_below (hasRow_new (w.alloc (.cells #[.int .i64 a, .int .i64 b, .int .i64 c, .int .i64 d] 30)) #[.int .i64 0, .int .i64 0, .int .i64 0, .int .i64 0] 30 4 rfl) hb1 (by simp))
    | (go_at_call 17; refine (lineBeginning_any _ none ByteArray.empty a b _ (by simp) (by simp) (by simp) (by simp) (by simp)).mono ?_; rintro e w2 ⟨rfl, hb2⟩; have hB2 := (hB1.alloc hB1.size _).trans (hb2.mono (by have := hB1.size; simp; omega)); have hr2 := hasRow_below (hasRow_alloc hr (hasRow_lt hr (by decide)) _) hb2 (by have := hasRow_lt hr (by decide); simp at this ⊢; omega))
    | (go_at_call 16; refine (implStretch_any _ _ ⟨_, rfl⟩ ⟨_, rfl⟩ _ _ _ _ _).mono ?_; rintro e w3 ⟨rfl, hb3⟩; have hB3 := hB2.trans (hb3.mono hB2.size); have hr3 : HasRow (w.heap.size + 1) 4 w3 := by simpa using hasRow_below hr2 hb3 (hasRow_lt hr2 (by decide))))
  obtain ⟨r0, r1, r2, r3⟩ := row4f hr3 (.int .i64 a) (.int .i64 1) (.int .i64 a) (.int .i64 b)
  exact bodyPost_ret (v := .agg #[.int .i64 a, .int .i64 1, .int .i64 a, .int .i64 b]) (by simp [results, Try.results12, go_sem, r0, r1, r2, r3]) rfl ⟨rfl, (((hB3.setCell (by simp) _).setCell (by simp) _).setCell (by simp) _).setCell (by simp) _⟩

/-- What the law has behind its two tests: the stretch's copy lies in one block, the argument in another. -/
theorem ahead_walk (a b c d : Int) (W : World) :
    Calls Try.prog 5 #[.agg #[.int .i64 a, .int .i64 b, .int .i64 c, .int .i64 d]] W fun e W' => e = .returned (.bool true) ∧ Below W.heap.size W W' := by
  have eb : (a == a) = true := by simp
  have eb2 : (b == b) = true := by simp
  obtain ⟨p, hp⟩ : ∃ p, sml a b = p := ⟨_, rfl⟩
  obtain ⟨q, hq⟩ : ∃ q, sml c d = q := ⟨_, rfl⟩
  have Hp := Lib.hid hp; have Hq := Lib.hid hq
  clear hp hq
  go_enter Try.func5, Try.ntmps5
  go_wp2_with fail
  refine (stretch_any _ _ _ _ _).mono ?_
  rintro e w1 ⟨rfl, hb1⟩
  have hB1 := (below_alloc1 W _).trans (hb1.mono (by simp))
  have hz1 : W.heap.size < w1.heap.size := by have := hb1.size; simp at this; omega
  have c1 : ∀ j, w1.cell? ⟨W.heap.size, j, none⟩ = #[Value.int IntKind.i64 a, .int .i64 b, .int .i64 c, .int .i64 d][j]? := fun j => by rw [(bcell hb1).1 _ _ (by simp)]; exact World.cell?_alloc_mark _ _ _ _ _
  clear hb1
  go_wp2_with fail
  refine (small_is a b _ Hp.out).mono ?_
  rintro e w2 ⟨rfl, hb2⟩
  have hB2 := (hB1.alloc hB1.size _).trans (hb2.mono (by have := hB1.size; simp; omega))
  have x2 : ∀ j, w2.cell? ⟨w1.heap.size, j, none⟩ = #[Value.int IntKind.i64 a, .int .i64 b, .int .i64 c, .int .i64 d][j]? := fun j => by rw [(bcell hb2).1 _ _ (by simp)]; exact World.cell?_alloc_mark _ _ _ _ _
  have c2 : ∀ j, w2.cell? ⟨W.heap.size, j, none⟩ = #[Value.int IntKind.i64 a, .int .i64 b, .int .i64 c, .int .i64 d][j]? := fun j => by rw [(bcell hb2).1 _ _ (by simp; omega), World.cell?_alloc_lt _ _ _ (by simpa using hz1)]; exact c1 j
  have hz2 : w1.heap.size < w2.heap.size := by have := hb2.size; simp at this; omega
  clear c1 hb2
  cases p
  · go_wp2_with fail
    go_ret
    exact ⟨rfl, hB2⟩
  go_wp2_with fail
  refine (small_is c d _ Hq.out).mono ?_
  rintro e w3 ⟨rfl, hb3⟩
  have hB3 := hB2.trans (hb3.mono hB2.size)
  have x3 : ∀ j, w3.cell? ⟨w1.heap.size, j, none⟩ = #[Value.int IntKind.i64 a, .int .i64 b, .int .i64 c, .int .i64 d][j]? := fun j => by rw [(bcell hb3).1 _ _ hz2]; exact x2 j
  have c3 : ∀ j, w3.cell? ⟨W.heap.size, j, none⟩ = #[Value.int IntKind.i64 a, .int .i64 b, .int .i64 c, .int .i64 d][j]? := fun j => by rw [(bcell hb3).1 _ _ (by omega)]; exact c2 j
  have hz3 : w1.heap.size < w3.heap.size := by have := hb3.size; omega
  clear c2 x2 hb3
  cases q
  · go_wp2_with fail
    go_ret
    exact ⟨rfl, hB3⟩
  by_cases h3 : a < 1
  · go_wp2_with fail
    go_ret
    exact ⟨rfl, hB3⟩
  by_cases h4 : b < 1
  · go_wp2_with fail
    go_ret
    exact ⟨rfl, hB3⟩
  go_wp2_with fail
  refine (lineAhead_any _ _ _ _ _).mono ?_
  rintro e w4 ⟨rfl, hb4⟩
  have hB4 := hB3.trans (hb4.mono hB3.size)
  have x4 : ∀ j, w4.cell? ⟨w1.heap.size, j, none⟩ = #[Value.int IntKind.i64 a, .int .i64 b, .int .i64 c, .int .i64 d][j]? := fun j => by rw [(bcell hb4).1 _ _ hz3]; exact x3 j
  have hz4 : w1.heap.size < w4.heap.size := by have := hb4.size; omega
  clear x3 hb4 c3
  go_wp2_with fail
  refine (stretch_any _ _ _ _ _).mono ?_
  rintro e w5 ⟨rfl, hb5⟩
  have hB5 := hB4.trans (hb5.mono hB4.size)
  have x5 : ∀ j, w5.cell? ⟨w1.heap.size, j, none⟩ = #[Value.int IntKind.i64 a, .int .i64 b, .int .i64 c, .int .i64 d][j]? := fun j => by rw [(bcell hb5).1 _ _ hz4]; exact x4 j
  have hz5 : w1.heap.size < w5.heap.size := by have := hb5.size; omega
  clear x4 hb5
  go_wp2_with fail
  go_ret
  exact ⟨rfl, hB5.alloc hB5.size _⟩

theorem Try.cells30 : Try.prog.cellsOf 30 = 4 := by kernel_rfl
/-- A stretch that came in, opened: four numbers. -/
theorem open_stretch {H : Type} {enc : TypeId × Value → H} {W : World} {base : Nat} {v : Value} {d : DataW H} {ps : List MemPlace}
    (hv : Value.okWide Try.prog W .any base 30 v) (h : DataW.Trod enc Try.prog W 0 (fun _ => true) true 30 v d ps) :
    ∃ a b c d : Int, v = .agg #[.int .i64 a, .int .i64 b, .int .i64 c, .int .i64 d] := by
  obtain ⟨cs, rfl, hsz⟩ := okWide_struct Try.underlying30 hv
  obtain ⟨c0, c1, c2, c3, rfl⟩ := array4 (hsz.trans Try.cells30)
  obtain ⟨fuel, hf⟩ := h
  obtain ⟨y0, y1, n, hx, _, h0, h1⟩ := trod_struct2 Try.underlying30 hf
  obtain ⟨z0, z1, n0, _, _, k0, k1⟩ := trod_struct2 Try.underlying23 h0
  obtain ⟨z2, z3, n1, _, _, k2, k3⟩ := trod_struct2 Try.underlying23 h1
  have one : Try.prog.cellsOf 3 = 1 := by kernel_rfl
  simp [Value.cells, Try.cells23, one] at k0 k1 k2 k3
  obtain ⟨a, e0, _, _⟩ := DataW.trod_int Try.underlying3 k0
  obtain ⟨b, e1, _, _⟩ := DataW.trod_int Try.underlying3 k1
  obtain ⟨c, e2, _, _⟩ := DataW.trod_int Try.underlying3 k2
  obtain ⟨d, e3, _, _⟩ := DataW.trod_int Try.underlying3 k3
  simp at e0 e1 e2 e3
  subst e0 e1 e2 e3
  exact ⟨a, b, c, d, rfl⟩

set_option maxRecDepth 100000 in
theorem ahead_holds_lifted (os : Os) (started : os.Started) (H : Type) (enc : TypeId × Value → H) :
    ReturnsInHanded {} Try.checked os 5 .any (Rows.fnLineAheadSpec.pre6 enc Try.prog Try.f5 Rows.fnLineAheadRow.domain false) (Rows.fnLineAheadSpec.post enc Try.prog Try.f5 false true false false) :=
  law_lift (C := Try.checked) (tb := 4) 1 own started (by kernel_rfl) Try.func5
    (ChangeSpec.witness6 (enc := enc) (C := Try.checked) false ⟨#[], #[.agg #[.int .i64 0, .int .i64 0, .int .i64 0, .int .i64 0]], []⟩ 8 (by kernel_rfl) (by kernel_rfl) (by kernel_rfl) (by kernel_rfl))
    laidOut rfl rfl Try.underlying4 (params_ok (by kernel_rfl)) rfl (fun ds h => by match ds, h with | [_], _ => rfl)
    (fun W base args ds ps hval0 hA0 hlt hsz0 => by
      have hA : DataW.TrodAll enc Try.prog W 0 (fun _ => true) true Try.f5.params.toList args.toList ds ps := hA0
      have hval : ∀ (j : Nat) t v, Try.f5.params[j]? = some t → args[j]? = some v → Value.okWide Try.prog W .any base t v := hval0
      have hsz : (DataW.weightsEach Try.prog Try.f5.params.toList ds).all (· ≤ reachBytes) = true := hsz0
      clear hA0 hval0 hsz0
      rw [Try.params5] at hA hval hsz
      obtain ⟨v0, d0, rfl, rfl, h0⟩ := trodAll_one hA
      obtain ⟨a, b, c, d, rfl⟩ := open_stretch (hval 0 30 v0 rfl rfl) h0
      exact ahead_walk a b c d W)

theorem ahead_holds : Rows.FnLineAheadSaid :=
  OpenClaim.holds_of_wide 5 Try.f5 rfl rfl rfl rfl rfl rfl rfl ⟨rfl, rfl, rfl, rfl, rfl⟩ rfl rfl rfl rfl rfl (by kernel_rfl) Try.func5 (by kernel_rfl)
    (of_decide_eq_true (by kernel_rfl)) (by unfold Func.isWrapper; first | (rw [if_pos (by decide +kernel)]; kernel_rfl) | (rw [if_neg (by decide +kernel)]; exact ⟨rfl, rfl⟩))
    (fun os started H enc _ => ahead_holds_lifted os started H enc)
#print axioms ahead_holds
end Go.Proofs.Ytbfigfpaphajgaa
