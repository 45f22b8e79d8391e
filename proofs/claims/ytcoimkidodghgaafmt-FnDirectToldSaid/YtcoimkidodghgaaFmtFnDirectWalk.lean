/-
  FnDirect's walk. Conditions: the lengths of the argument's lists.
-/
import Derived.Test.YtcoimkidodghgaaFmtSub
import Derived.Test.YtcoimkidodghgaaFmtFits
namespace Go.Proofs.YtcoimkidodghgaaFmt
open Go.ChangeShapes Go.WideShapes Go.ChangeAt Go.RowKit Go.Joins

set_option maxRecDepth 100000 in
set_option maxHeartbeats 8000000 in
theorem direct_walk {t : Tr} {S : Nat → Prop} {w : World} {u : Value} (hs : Subs w S t.subs u) (hbd : Bnd 2199023255488 t) :
    Calls Tryf.prog 4 #[.agg #[.int .i64 t.k, .string t.tx, .int .i64 t.op, .bool t.fl, u]] w fun e w' => e = .returned (.bool true) ∧ Below w.heap.size w w' := by
  obtain ⟨a, cap, rfl, hcap⟩ := hs.form
  have hB := below_alloc1 w (.cells #[.int .i64 t.k, .string t.tx, .int .i64 t.op, .bool t.fl, .slice a t.subs.length cap] 24)
  have HS := Lib.hid (hs.bel hB); clear hs
  have HBD := Lib.hid hbd; clear hbd
  have HX := Lib.hid (heap_alloc_new w (.cells #[.int .i64 t.k, .string t.tx, .int .i64 t.op, .bool t.fl, .slice a t.subs.length cap] 24))
  go_enter Tryf.func4, Tryf.ntmps4
  go_wp2_with fail
  refine (fits6_any _ _ _ _ _ _ _ _).mono ?_
  rintro e w1 ⟨⟨r, rfl⟩, hb1⟩
  have hB1 := hB.trans (hb1.mono hB.size)
  have HX1 := Lib.hid ((hb1.block w.heap.size (by simp)).trans HX.out)
  have HS1 := Lib.hid (HS.out.bel hb1)
  clear hb1 hB
  cases r
  · go_wp2
    go_ret
    exact ⟨rfl, hB1⟩
  have x0 := cell_of (j := 0) HX1.out rfl
  have x1 := cell_of (j := 1) HX1.out rfl
  have x2 := cell_of (j := 2) HX1.out rfl
  have x3 := cell_of (j := 3) HX1.out rfl
  have x4 := cell_of (j := 4) HX1.out rfl
  have z1 := heap_lt' HX1.out
  go_wp2_with fail
  refine (lawsTree_any t HS1.out HBD.out).mono ?_
  rintro e w2 ⟨⟨u2, rfl, hs2⟩, hb2⟩
  obtain ⟨a2, c2, rfl, _⟩ := hs2.form
  have hB2 := hB1.trans (hb2.mono hB1.size)
  have HX2 := Lib.hid ((hb2.block w.heap.size z1).trans HX1.out)
  have HS2 := Lib.hid (HS1.out.bel hb2)
  have z2 := heap_lt' HX2.out
  have HD2 := Lib.hid (below_alloc1 w2 (.cells #[.int .i64 t.k, .string t.tx, .int .i64 t.op, .bool t.fl, .slice a2 t.subs.length c2] 28))
  have HT2 := Lib.hid (hs2.bel HD2.out)
  have HY2 := Lib.hid (heap_alloc_new w2 (.cells #[.int .i64 t.k, .string t.tx, .int .i64 t.op, .bool t.fl, .slice a2 t.subs.length c2] 28))
  clear x0 x1 x2 x3 x4 hb2 hs2 hB1
  go_wp2_with fail
  refine (treeS_any t HT2.out HBD.out).mono ?_
  rintro e w3 ⟨⟨r, rfl, hr⟩, hb3⟩
  have HR := Lib.hid hr; clear hr
  have HDB3 := Lib.hid (HD2.out.trans (hb3.mono HD2.out.size))
  have HB3 := Lib.hid (hB2.trans (HDB3.out.mono hB2.size))
  have HX3 := Lib.hid ((HDB3.out.block w.heap.size z2).trans HX2.out)
  have HS3 := Lib.hid (HS2.out.bel HDB3.out)
  have HT3 := Lib.hid (HT2.out.bel hb3)
  have HY3 := Lib.hid ((hb3.block w2.heap.size (by simp)).trans HY2.out)
  clear hb3 hB2
  cases r
  · go_wp2
    go_ret
    exact ⟨rfl, HB3.out⟩
  have ok : Ok t := HR.out (by first | rfl | trivial)
  have HOK := Lib.hid ok; clear ok
  have y0 := cell_of (j := 0) HY3.out rfl
  have zy := heap_lt' HY3.out
  have zx := heap_lt' HX3.out
  by_cases e1 : t.k = 20 ∨ t.k = 16
  · rcases e1 with e | e
    · have d : (t.k == 20) = true := by simp [e]
      clear e
      go_wp2
      go_ret
      exact ⟨rfl, HB3.out⟩
    · have d0 : (t.k == 20) = false := by simp [e]
      have d : (t.k == 16) = true := by simp [e]
      clear e
      go_wp2
      go_ret
      exact ⟨rfl, HB3.out⟩
  have d20 : (t.k == 20) = false := by simp; omega
  have d16 : (t.k == 16) = false := by simp; omega
  have H20 := Lib.hid (show t.k ≠ 20 by omega)
  have H16 := Lib.hid (show t.k ≠ 16 by omega)
  have HSUB := Lib.hid (ok_sub HOK.out H20.out)
  have x0 := cell_of (j := 0) HX3.out rfl
  have x1 := cell_of (j := 1) HX3.out rfl
  have x2 := cell_of (j := 2) HX3.out rfl
  have x3 := cell_of (j := 3) HX3.out rfl
  have x4 := cell_of (j := 4) HX3.out rfl
  have HL := Lib.hid (Nat.le_trans (directF_le t) (Nat.le_trans (ok_bnd HOK.out).len (by decide : 6 ≤ 2199023255488)))
  have HBK := Lib.hid (fun (s : Tr) (h : s ∈ directF t) => HBD.out.sub s (directF_mem h))
  by_cases e8 : t.k = 8 ∨ t.k = 28 ∨ t.k = 23
  · obtain ⟨s, hs1⟩ := HSUB.out.2.2 e8
    have hd : directF t = [s] := by
      unfold directF
      rw [if_neg (by omega), if_neg (by omega), hs1]
    have HS1 := Lib.hid hs1
    have HBS := Lib.hid (HBD.out.sub s (by rw [hs1]; simp))
    have ht1 : t.subs[0]? = some s := by rw [hs1]; rfl
    have hn1 : t.subs.length = 1 := by rw [hs1]; rfl
    have HT1 := Lib.hid ht1; have HN1 := Lib.hid hn1; have HDD := Lib.hid hd
    clear e1 hs1 ht1 hn1 hd
    go_wp2_with fail
    refine (implDirect_any HOK.out H20.out H16.out HS3.out).mono ?_
    rintro e w4 ⟨⟨v, rfl, hv⟩, hb4⟩
    rw [HDD.out] at hv
    obtain ⟨a4, c4, rfl, _⟩ := hv.form
    have HV := Lib.hid hv; clear hv
    have HB4 := Lib.hid (HB3.out.trans (hb4.mono HB3.out.size))
    have HY4 := Lib.hid ((hb4.block w2.heap.size zy).trans HY3.out)
    have HT4 := Lib.hid (HT3.out.bel hb4)
    clear hb4 x0 x1 x2 x3 x4 y0
    go_wp2_with fail
    refine (trees_any HV.out (by simp) (fun x hx => by obtain rfl : x = s := (by simpa using hx); exact HBS.out)).mono ?_
    rintro e w5 ⟨⟨v5, rfl, hv5⟩, hb5⟩
    obtain ⟨a5, c5, e5, _⟩ := hv5.form
    have e5' : v5 = .slice a5 1 c5 := e5
    subst e5'
    have HB5 := Lib.hid (HB4.out.trans (hb5.mono HB4.out.size))
    have zy4 := heap_lt' HY4.out
    have HY5 := Lib.hid ((hb5.block w2.heap.size zy4).trans HY4.out)
    have HT5 := Lib.hid (HT4.out.bel hb5)
    clear hb5 e5
    have y0 := cell_of (j := 0) HY5.out rfl
    have y4 := cell_of (j := 4) HY5.out rfl
    rw [HN1.out] at y4
    have zy5 := heap_lt' HY5.out
    obtain ⟨b, off, ug, rfl, _, zb, hug, c0, c1, c2', c3, c4'⟩ := hv5.at_ (i := 0) (t := s) rfl
    obtain ⟨uga, ugc, rfl, _⟩ := hug.form
    have HT5' := HT5.out
    obtain ⟨b', off', ux, ea, _, zb', hux, d0, d1, d2, d3, d4⟩ := HT5'.at_ HT1.out
    subst ea
    obtain ⟨uxa, uxc, rfl, _⟩ := hux.form
    have HUG := Lib.hid hug; have HUX := Lib.hid hux
    clear hug hux HT5' hv5
    simp only [Nat.zero_mul, Nat.add_zero] at c0 c1 c2' c3 c4' d0 d1 d2 d3 d4
    have ix : (0 : Int) < (t.subs.length : Int) := by rw [HN1.out]; decide
    have W5 := Lib.hid (sameB_yes (rfl : s = s))
    have fin : ∀ {w6 : World}, Stay w5 w6 → Below w.heap.size w w6 := fun h => HB5.out.trans (h.1.mono HB5.out.size)
    have HFIN := Lib.hid (fun (w6 : World) (h : Stay w5 w6) => HB5.out.trans (h.1.mono HB5.out.size))
    clear fin
    rcases e8 with e | e | e
    · have g8 : (t.k == 8) = true := by simp [e]
      clear e
      go_wp2_with fail
      refine wp_region_quiet_C (Stay w5) (by kernel_rfl) (by kernel_rfl) (stay_start _) ?_
      repeat (first
        | (refine wpQ_skip (by rfl) ?_; simp only [Act.put, List.setIfInBounds_toArray, List.set_cons_zero, List.set_cons_succ])
        | (refine wpQ_value (v := ?_) (by rfl) ?_ ?_; rotate_left; (intro w hw; go_simp; done); simp only [Act.put, List.setIfInBounds_toArray, List.set_cons_zero, List.set_cons_succ])
        | (refine wpQ_value (v := ?_) (by rfl) ?_ ?_; rotate_left; (intro w hw; go_simp; with_reducible rfl); simp only [Act.put, List.setIfInBounds_toArray, List.set_cons_zero, List.set_cons_succ])
        | (refine wpQ_call (f := ?_) (args := ?_) (v := ?_) (by rfl) ?_ ?_ ?_; rotate_left 3; (intro w hw; go_simp; first | with_reducible rfl | (constructor; with_reducible rfl; with_reducible rfl)); (intro w hw; first | ((refine (same_any s s _ _ w _ _ true W5.out (HUG.out.bel hw.1) (HUX.out.bel hw.1) HBS.out HBS.out).mono ?_); rintro e w'' ⟨rfl, hbw⟩; constructor; with_reducible rfl; exact stay_step hw hbw)); simp only [Act.put, List.setIfInBounds_toArray, List.set_cons_zero, List.set_cons_succ]))
      refine wpQuiet_nil ?_
      intro w6 hS6
      have hB6 := HFIN.out w6 hS6
      clear hS6
      go_wp2
      go_ret
      exact ⟨rfl, hB6⟩
    · have g8 : (t.k == 8) = false := by simp [e]
      have g28 : (t.k == 28) = true := by simp [e]
      clear e
      go_wp2_with fail
      refine wp_region_quiet_C (Stay w5) (by kernel_rfl) (by kernel_rfl) (stay_start _) ?_
      repeat (first
        | (refine wpQ_skip (by rfl) ?_; simp only [Act.put, List.setIfInBounds_toArray, List.set_cons_zero, List.set_cons_succ])
        | (refine wpQ_value (v := ?_) (by rfl) ?_ ?_; rotate_left; (intro w hw; go_simp; done); simp only [Act.put, List.setIfInBounds_toArray, List.set_cons_zero, List.set_cons_succ])
        | (refine wpQ_value (v := ?_) (by rfl) ?_ ?_; rotate_left; (intro w hw; go_simp; with_reducible rfl); simp only [Act.put, List.setIfInBounds_toArray, List.set_cons_zero, List.set_cons_succ])
        | (refine wpQ_call (f := ?_) (args := ?_) (v := ?_) (by rfl) ?_ ?_ ?_; rotate_left 3; (intro w hw; go_simp; first | with_reducible rfl | (constructor; with_reducible rfl; with_reducible rfl)); (intro w hw; first | ((refine (same_any s s _ _ w _ _ true W5.out (HUG.out.bel hw.1) (HUX.out.bel hw.1) HBS.out HBS.out).mono ?_); rintro e w'' ⟨rfl, hbw⟩; constructor; with_reducible rfl; exact stay_step hw hbw)); simp only [Act.put, List.setIfInBounds_toArray, List.set_cons_zero, List.set_cons_succ]))
      refine wpQuiet_nil ?_
      intro w6 hS6
      have hB6 := HFIN.out w6 hS6
      clear hS6
      go_wp2
      go_ret
      exact ⟨rfl, hB6⟩
    · have g8 : (t.k == 8) = false := by simp [e]
      have g28 : (t.k == 28) = false := by simp [e]
      have g23 : (t.k == 23) = true := by simp [e]
      clear e
      go_wp2_with fail
      refine wp_region_quiet_C (Stay w5) (by kernel_rfl) (by kernel_rfl) (stay_start _) ?_
      repeat (first
        | (refine wpQ_skip (by rfl) ?_; simp only [Act.put, List.setIfInBounds_toArray, List.set_cons_zero, List.set_cons_succ])
        | (refine wpQ_value (v := ?_) (by rfl) ?_ ?_; rotate_left; (intro w hw; go_simp; done); simp only [Act.put, List.setIfInBounds_toArray, List.set_cons_zero, List.set_cons_succ])
        | (refine wpQ_value (v := ?_) (by rfl) ?_ ?_; rotate_left; (intro w hw; go_simp; with_reducible rfl); simp only [Act.put, List.setIfInBounds_toArray, List.set_cons_zero, List.set_cons_succ])
        | (refine wpQ_call (f := ?_) (args := ?_) (v := ?_) (by rfl) ?_ ?_ ?_; rotate_left 3; (intro w hw; go_simp; first | with_reducible rfl | (constructor; with_reducible rfl; with_reducible rfl)); (intro w hw; first | ((refine (same_any s s _ _ w _ _ true W5.out (HUG.out.bel hw.1) (HUX.out.bel hw.1) HBS.out HBS.out).mono ?_); rintro e w'' ⟨rfl, hbw⟩; constructor; with_reducible rfl; exact stay_step hw hbw)); simp only [Act.put, List.setIfInBounds_toArray, List.set_cons_zero, List.set_cons_succ]))
      refine wpQuiet_nil ?_
      intro w6 hS6
      have hB6 := HFIN.out w6 hS6
      clear hS6
      go_wp2
      go_ret
      exact ⟨rfl, hB6⟩
  · have g8 : (t.k == 8) = false := by simp; omega
    have g28 : (t.k == 28) = false := by simp; omega
    have g23 : (t.k == 23) = false := by simp; omega
    clear e1 e8
    go_wp2_with fail
    refine (implDirect_any HOK.out H20.out H16.out HS3.out).mono ?_
    rintro e w4 ⟨⟨v, rfl, hv⟩, hb4⟩
    obtain ⟨a4, c4, rfl, _⟩ := hv.form
    have HV := Lib.hid hv; clear hv
    have HB4 := Lib.hid (HB3.out.trans (hb4.mono HB3.out.size))
    have HY4 := Lib.hid ((hb4.block w2.heap.size zy).trans HY3.out)
    have HT4 := Lib.hid (HT3.out.bel hb4)
    clear hb4 x0 x1 x2 x3 x4 y0
    go_wp2_with fail
    refine (trees_any HV.out HL.out HBK.out).mono ?_
    rintro e w5 ⟨⟨v5, rfl, hv5⟩, hb5⟩
    obtain ⟨a5, c5, rfl, _⟩ := hv5.form
    have HV5 := Lib.hid hv5; clear hv5
    have HB5 := Lib.hid (HB4.out.trans (hb5.mono HB4.out.size))
    have zy4 := heap_lt' HY4.out
    have HY5 := Lib.hid ((hb5.block w2.heap.size zy4).trans HY4.out)
    have HT5 := Lib.hid (HT4.out.bel hb5)
    clear hb5
    have y0 := cell_of (j := 0) HY5.out rfl
    have y1 := cell_of (j := 1) HY5.out rfl
    have y2 := cell_of (j := 2) HY5.out rfl
    have y3 := cell_of (j := 3) HY5.out rfl
    have y4 := cell_of (j := 4) HY5.out rfl
    have zy5 := heap_lt' HY5.out
    go_wp2_with fail
    refine (kids_any HT5.out HBD.out.len HSUB.out.1).mono ?_
    rintro e w6 ⟨⟨v6, rfl, hv6⟩, hb6⟩
    obtain ⟨a6, c6, rfl, _⟩ := hv6.form
    rw [show (t.subs.map unarg).length = t.subs.length by simp] at hv6
    have HV6 := Lib.hid hv6; clear hv6
    have HG6 := Lib.hid (HV5.out.bel hb6)
    have HB6 := Lib.hid (HB5.out.trans (hb6.mono HB5.out.size))
    clear hb6 y0 y1 y2 y3 y4
    go_wp2_with fail
    refine (among_any (direct_hle HOK.out H20.out) HG6.out HV6.out HL.out (len_map_unarg HBD.out) HBK.out (bnd_map_unarg HBD.out)).mono ?_
    rintro e w7 ⟨rfl, hb7⟩
    have hB7 := HB6.out.trans (hb7.mono HB6.out.size)
    clear hb7
    go_wp2
    go_ret
    exact ⟨rfl, hB7⟩
end Go.Proofs.YtcoimkidodghgaaFmt
