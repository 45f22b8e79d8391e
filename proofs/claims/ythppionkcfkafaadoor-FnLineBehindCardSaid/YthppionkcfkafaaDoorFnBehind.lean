/-
  FnLineBehind: what is behind a stretch in its line begins where it ends, and ends in that line, where that ends. What bytes.ErrTooLarge holds is tied to the program's text.
-/
import Derived.Test.YthppionkcfkafaaDoorBehind
import Derived.Test.YthppionkcfkafaaDoorLaid0
namespace Go.Proofs.YthppionkcfkafaaDoor
open Go.ChangeShapes Go.WideShapes Go.ChangeAt Go.RowKit Go.Joins Go.WideElems Go.Maps

theorem hid_keep {W w : World} {g : Nat} {o : Obj} (hb : Below W.heap.size W w) (h : Hid (W.heap[g]? = some o)) : Hid (w.heap[g]? = some o) := Lib.hid ((hb.block g (lt_of_block h.out)).trans h.out)
set_option maxRecDepth 100000 in
set_option maxHeartbeats 3200000 in
theorem behind_walk (s : ByteArray) (a b c d : Int) (W : World) : Calls Tryd.prog 5 #[.string s, .agg #[.int .i64 a, .int .i64 b, .int .i64 c, .int .i64 d]] W fun e W' => e = .returned (.bool true) ∧ Below W.heap.size W W' := by
  by_cases h1 : (2147483647 : Int) < s.size
  · have d1 : decide ((2147483647 : Int) < s.size) = true := decide_eq_true h1
    go_enter Tryd.func5, Tryd.ntmps5
    go_wp2
    go_ret
    exact ⟨rfl, below_alloc1 _ _⟩
  have d1 : decide ((2147483647 : Int) < s.size) = false := decide_eq_false h1
  have HB0 := Lib.hid (below_alloc1 W (.cells #[.int .i64 a, .int .i64 b, .int .i64 c, .int .i64 d] 41))
  have HA0 := Lib.hid (heap_alloc_new W (.cells #[.int .i64 a, .int .i64 b, .int .i64 c, .int .i64 d] 41))
  go_enter Tryd.func5, Tryd.ntmps5
  go_wp2_with fail
  refine (stretch_any a b c d _).mono ?_
  rintro e w1 ⟨rfl, hb1⟩
  have HB1 := Lib.hid ((HB0.out.trans (hb1.mono HB0.out.size)).alloc (HB0.out.trans (hb1.mono HB0.out.size)).size (.cells #[.int .i64 a, .int .i64 b, .int .i64 c, .int .i64 d] 44))
  have HA1 := hid_keep (below_alloc1 w1 (.cells #[.int .i64 a, .int .i64 b, .int .i64 c, .int .i64 d] 44)) (hid_keep hb1 HA0)
  have HX1 := Lib.hid (heap_alloc_new w1 (.cells #[.int .i64 a, .int .i64 b, .int .i64 c, .int .i64 d] 44))
  clear hb1 HB0 HA0
  by_cases h2 : (400 : Int) < s.size
  · have d2 : decide ((400 : Int) < s.size) = true := decide_eq_true h2
    go_wp2
    go_ret
    exact ⟨rfl, HB1.out⟩
  have d2 : decide ((400 : Int) < s.size) = false := decide_eq_false h2
  have hs : s.size ≤ 400 := by omega
  obtain ⟨p, hp⟩ : ∃ p, sml a b = p := ⟨_, rfl⟩
  obtain ⟨q, hq⟩ : ∃ q, sml c d = q := ⟨_, rfl⟩
  have HP := Lib.hid hp; have HQ := Lib.hid hq
  clear hp hq h1 h2
  go_wp2_with fail
  refine (utf_any s hs _).mono ?_
  rintro e w2 ⟨⟨r, rfl, hr⟩, hb2⟩
  have HB2 := Lib.hid (HB1.out.trans (hb2.mono HB1.out.size))
  have HA2 := hid_keep hb2 HA1
  have HX2 := hid_keep hb2 HX1
  clear hb2 HB1 HA1 HX1
  cases r
  · clear hr
    go_wp2
    go_ret
    exact ⟨rfl, HB2.out⟩
  have HR := Lib.hid (hr rfl); clear hr
  have x0 := cell_of (j := 0) HX2.out rfl
  have x1 := cell_of (j := 1) HX2.out rfl
  go_wp2_with fail
  refine (small_is a b _ HP.out).mono ?_
  rintro e w3 ⟨rfl, hb3⟩
  have HB3 := Lib.hid (HB2.out.trans (hb3.mono HB2.out.size))
  have HA3 := hid_keep hb3 HA2
  have HX3 := hid_keep hb3 HX2
  clear hb3 HB2 HA2 HX2 x0 x1
  cases p
  · go_wp2
    go_ret
    exact ⟨rfl, HB3.out⟩
  have x2 := cell_of (j := 2) HX3.out rfl
  have x3 := cell_of (j := 3) HX3.out rfl
  go_wp2_with fail
  refine (small_is c d _ HQ.out).mono ?_
  rintro e w4 ⟨rfl, hb4⟩
  have HB4 := Lib.hid (HB3.out.trans (hb4.mono HB3.out.size))
  have HA4 := hid_keep hb4 HA3
  have HX4 := hid_keep hb4 HX3
  clear hb4 HB3 HA3 HX3 x2 x3
  cases q
  · go_wp2
    go_ret
    exact ⟨rfl, HB4.out⟩
  go_wp2_with fail
  refine (cut_any s hs _).mono ?_
  rintro e w5 ⟨⟨v, rfl, hrow⟩, hb5⟩
  have HB5 := Lib.hid (HB4.out.trans (hb5.mono HB4.out.size))
  have HA5 := hid_keep hb5 HA4
  have HX5 := hid_keep hb5 HX4
  have hcl := (cutL_len s.data.toList).2
  rw [← Lib.size_eq] at hcl
  have HROW := Lib.hid hrow
  obtain ⟨g, cap, rfl, _, _, _⟩ := hrow
  obtain ⟨N, hN⟩ : ∃ N, (cutL s.data.toList).length = N := ⟨_, rfl⟩
  rw [hN] at hcl HROW
  rw [hN]
  have HN := Lib.hid hN; clear hN
  clear hb5 HB4 HA4 HX4
  have x2 := cell_of (j := 2) HX5.out rfl
  by_cases h3 : c < 1
  · have e3 : decide (c < 1) = true := decide_eq_true h3
    go_wp2
    go_ret
    exact ⟨rfl, HB5.out⟩
  have e3 : decide (c < 1) = false := decide_eq_false h3
  by_cases h4 : (N : Int) < c
  · have e4 : decide ((N : Int) < c) = true := decide_eq_true h4
    go_wp2
    go_ret
    exact ⟨rfl, HB5.out⟩
  have e4 : decide ((N : Int) < c) = false := decide_eq_false h4
  obtain ⟨k, hk⟩ := Int.eq_ofNat_of_zero_le (show 0 ≤ c - 1 by omega)
  obtain rfl : c = (k : Int) + 1 := by omega
  have hkN : k < N := by omega
  clear hk h3 h4
  obtain ⟨l, hl⟩ : ∃ l, (cutL s.data.toList)[k]? = some l := ⟨_, List.getElem?_eq_getElem (by rw [HN.out]; exact hkN)⟩
  obtain ⟨z, hz⟩ : ∃ z : ByteArray, (⟨l.toArray⟩ : ByteArray) = z := ⟨_, rfl⟩
  have hzl : l.length = z.size := by rw [← hz, Lib.size_eq]
  have HZ := Lib.hid (And.intro hz hzl); have HLK := Lib.hid hl
  clear hz hzl hl
  have a0 := cell_of (j := 0) HA5.out rfl
  have a1 := cell_of (j := 1) HA5.out rfl
  have a2 := cell_of (j := 2) HA5.out rfl
  have a3 := cell_of (j := 3) HA5.out rfl
  go_wp2_with fail
  refine (lineBehind_any s hs HR.out a b d k l HLK.out _).mono ?_
  rintro e w6 ⟨he, hb6⟩
  rw [HZ.out.2] at he
  subst he
  have HB6 := Lib.hid (HB5.out.trans (hb6.mono HB5.out.size))
  have HX6 := hid_keep hb6 HX5
  have HROW6 := Lib.hid (HROW.out.bel hb6)
  clear hb6 HB5 HA5 HX5 a0 a1 a2 a3 x2 HROW
  go_wp2_with fail
  refine (stretch_any _ _ _ _ _).mono ?_
  rintro e w7 ⟨rfl, hb7⟩
  have HB7 := Lib.hid ((HB6.out.trans (hb7.mono HB6.out.size)).alloc (HB6.out.trans (hb7.mono HB6.out.size)).size (Obj.cells #[Value.int IntKind.i64 ((k : Int) + 1), Value.int IntKind.i64 d, Value.int IntKind.i64 ((k : Int) + 1), Value.int IntKind.i64 (z.size : Int)] 44))
  have HX7 := hid_keep (below_alloc1 w7 (Obj.cells #[Value.int IntKind.i64 ((k : Int) + 1), Value.int IntKind.i64 d, Value.int IntKind.i64 ((k : Int) + 1), Value.int IntKind.i64 (z.size : Int)] 44)) (hid_keep hb7 HX6)
  have HROW7 := Lib.hid ((HROW6.out.bel hb7).bel (below_alloc1 w7 (Obj.cells #[Value.int IntKind.i64 ((k : Int) + 1), Value.int IntKind.i64 d, Value.int IntKind.i64 ((k : Int) + 1), Value.int IntKind.i64 (z.size : Int)] 44)))
  have HG7 := Lib.hid (heap_alloc_new w7 (Obj.cells #[Value.int IntKind.i64 ((k : Int) + 1), Value.int IntKind.i64 d, Value.int IntKind.i64 ((k : Int) + 1), Value.int IntKind.i64 (z.size : Int)] 44))
  obtain ⟨w8, hw8⟩ : ∃ w8, w7.alloc (Obj.cells #[Value.int IntKind.i64 ((k : Int) + 1), Value.int IntKind.i64 d, Value.int IntKind.i64 ((k : Int) + 1), Value.int IntKind.i64 (z.size : Int)] 44) = w8 := ⟨_, rfl⟩
  rw [hw8] at HB7 HX7 HROW7 HG7
  have HW8 := Lib.hid hw8; clear hw8
  clear hb7 HB6 HX6 HROW6
  go_upto_region 10 with fail
  rw [HW8.out]
  obtain ⟨g', cap', he, hcap, hgl, hcells⟩ := HROW7.out
  injection he with he1 he2 he3
  injection he1 with he1
  injection he1 with he1
  subst he1
  have q0 := hcells k l HLK.out
  unfold str at q0
  rw [HZ.out.1] at q0
  have x0 := cell_of (j := 2) HX7.out rfl
  have x1 := cell_of (j := 3) HX7.out rfl
  have g0 := cell_of (j := 0) HG7.out rfl
  have g1 := cell_of (j := 1) HG7.out rfl
  have g2 := cell_of (j := 2) HG7.out rfl
  have g3 := cell_of (j := 3) HG7.out rfl
  have zx := lt_of_block HX7.out
  have zg := lt_of_block HG7.out
  have i1 : (k : Int) < (N : Int) := by omega
  have i3 : (k : Int) + 1 - 1 = k := by omega
  have i4 : IntKind.i64.wrap ((k : Int) + 1 - 1) = k := by rw [i3, IntKind.wrap_i64]; omega
  have i5 : IntKind.i64.wrap (k : Int) = k := by rw [IntKind.wrap_i64]; omega
  have ec : ((k : Int) + 1 == (k : Int) + 1) = true := by simp
  have ed : (d == d) = true := by simp
  have ez : ((z.size : Int) == (z.size : Int)) = true := by simp
  clear hcells he2 he3 hcap e3 e4 hcl
  refine wp_region_quiet_C (Stay w8) (by kernel_rfl) (by kernel_rfl) (stay_start _) ?_
  repeat (first
    | (refine wpQ_skip (by rfl) ?_; simp only [Act.put, List.setIfInBounds_toArray, List.set_cons_zero, List.set_cons_succ])
    | (refine wpQ_value (v := ?_) (by rfl) ?_ ?_; rotate_left; (intro w hw; go_simp; done); simp only [Act.put, List.setIfInBounds_toArray, List.set_cons_zero, List.set_cons_succ])
    | (refine wpQ_value (v := ?_) (by rfl) ?_ ?_; rotate_left; (intro w hw; go_simp; with_reducible rfl); simp only [Act.put, List.setIfInBounds_toArray, List.set_cons_zero, List.set_cons_succ])
    | (refine wpQ_call (f := ?_) (args := ?_) (v := ?_) (by rfl) ?_ ?_ ?_; rotate_left 3; (intro w hw; go_simp; first | with_reducible rfl | (constructor; with_reducible rfl; with_reducible rfl)); (intro w hw; first | fail); simp only [Act.put, List.setIfInBounds_toArray, List.set_cons_zero, List.set_cons_succ]))
  refine wpQuiet_nil ?_
  intro w9 hS9
  have hB9 := HB7.out.trans (hS9.1.mono HB7.out.size)
  clear q0 x0 x1 g0 g1 g2 g3
  go_wp2
  go_ret
  exact ⟨rfl, hB9⟩
end Go.Proofs.YthppionkcfkafaaDoor
