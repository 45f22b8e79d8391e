/-
  spec.Append over lists of pieces. Conditions: the lists' lengths, the numbers of blank lines.
-/
import Derived.Test.YthlnciihabhmaaaFmtWith
import Derived.IntWalk
namespace Go.Proofs.YthlnciihabhmaaaFmt
open Go.ChangeShapes Go.WideShapes Go.ChangeAt Go.RowKit Go.Joins

theorem clean_is {w : World} {v : Value} {ps : List Pc} {r : Bool} (h : Pcs pV w v ps) (hm : (ps.length : Int) ≤ 2147483647) (hr : cleanB ps = r) :
    Calls Tryf.prog 32 #[v] w fun e w' => e = .returned (.bool r) ∧ w = w' := hr ▸ clean_pcs h hm
theorem with_is {w : World} {v u : Value} {ps qs : List Pc} {k bl ind : Int} {ss : List ByteArray} (h : Pcs pV w v ps) (hu : Comm w u ss) (hm : (ps.length : Int) ≤ 2147483647) (hq : qs = ps ++ [⟨k, bl, ind, ss⟩]) :
    Calls Tryf.prog 30 #[v, .agg #[.int .i64 k, .int .i64 bl, .int .i64 ind, u]] w fun e w' => (∃ v', e = .returned v' ∧ Pcs pV w' v' qs) ∧ Below w.heap.size w w' := by
  subst hq
  exact (with_pcs (p := ⟨k, bl, ind, ss⟩) h hu hm).mono fun e w' ⟨⟨v', he, ho⟩, hb⟩ => ⟨⟨v', he, ho.pcs⟩, hb⟩

/-- The piece goes behind as it is. -/
theorem append_plain {w : World} {v u : Value} {ps : List Pc} {k bl ind : Int} {ss : List ByteArray} (h : Pcs pV w v ps) (hu : Comm w u ss) (hm : (ps.length : Int) ≤ 2147483647) (r : Bool) (hr : cleanB ps = r) (hk : r = true ∧ k ≠ 0 ∨ r = false ∧ k ≠ 2) :
    Calls Tryf.prog 26 #[v, .agg #[.int .i64 k, .int .i64 bl, .int .i64 ind, u]] w fun e w' => (∃ v', e = .returned v' ∧ Pcs pV w' v' (ps ++ [⟨k, bl, ind, ss⟩])) ∧ Below w.heap.size w w' := by
  obtain ⟨a, cap, rfl⟩ := h.form
  obtain ⟨ua, ucap, rfl⟩ := hu.form
  have hB1 := below_alloc1 w (.cells #[.int .i64 k, .int .i64 bl, .int .i64 ind, .slice ua ss.length ucap] 26)
  have HP1 := Lib.hid (h.below hB1)
  have HU := Lib.hid (hu.below hB1)
  have HR := Lib.hid hr
  clear h hu hr
  rcases hk with ⟨rfl, hk⟩ | ⟨rfl, hk⟩
  · have hk1 : (k == 0) = false := by simpa using hk
    have HK := Lib.hid hk; clear hk
    go_enter Tryf.func26, Tryf.ntmps26
    go_wp2_with (go_at_call 32; refine (clean_is HP1.out hm HR.out).mono ?_; rintro e w' ⟨rfl, rfl⟩)
    go_at_call 30
    refine (with_is HP1.out HU.out hm rfl).mono ?_
    rintro e w2 ⟨⟨v', rfl, hv⟩, hb2⟩
    have hB2 := hB1.trans (hb2.mono hB1.size)
    have HV := Lib.hid hv; clear hv
    go_wp2
    go_ret
    exact ⟨⟨_, rfl, HV.out⟩, hB2⟩
  · have hk1 : (k == 2) = false := by simpa using hk
    have HK := Lib.hid hk; clear hk
    go_enter Tryf.func26, Tryf.ntmps26
    go_wp2_with (go_at_call 32; refine (clean_is HP1.out hm HR.out).mono ?_; rintro e w' ⟨rfl, rfl⟩)
    go_at_call 30
    refine (with_is HP1.out HU.out hm rfl).mono ?_
    rintro e w2 ⟨⟨v', rfl, hv⟩, hb2⟩
    have hB2 := hB1.trans (hb2.mono hB1.size)
    have HV := Lib.hid hv; clear hv
    go_wp2
    go_ret
    exact ⟨⟨_, rfl, HV.out⟩, hB2⟩
/-- The end of a line with a comment behind a line. -/
theorem append_lines {w : World} {v u : Value} {ps : List Pc} {bl ind : Int} {ss : List ByteArray} (h : Pcs pV w v ps) (hu : Comm w u ss) (hm : (ps.length : Int) ≤ 2147483647) (hr : cleanB ps = true) (h0 : (0 : Int) < ss.length) :
    Calls Tryf.prog 26 #[v, .agg #[.int .i64 0, .int .i64 bl, .int .i64 ind, u]] w fun e w' => (∃ v', e = .returned v' ∧ Pcs pV w' v' (ps ++ [⟨2, bl, ind, ss⟩])) ∧ Below w.heap.size w w' := by
  obtain ⟨a, cap, rfl⟩ := h.form
  obtain ⟨ua, ucap, rfl⟩ := hu.form
  have HP1 := Lib.hid (h.below (below_alloc1 w (.cells #[.int .i64 0, .int .i64 bl, .int .i64 ind, .slice ua ss.length ucap] 26)))
  have hB1 := below_alloc1 w (.cells #[.int .i64 2, .int .i64 bl, .int .i64 ind, .slice ua ss.length ucap] 26)
  have HP2 := Lib.hid (h.below hB1)
  have HU := Lib.hid (hu.below hB1)
  have HR := Lib.hid hr
  clear h hu hr
  go_enter Tryf.func26, Tryf.ntmps26
  go_wp2_with (go_at_call 32; refine (clean_is HP1.out hm HR.out).mono ?_; rintro e w' ⟨rfl, rfl⟩)
  go_at_call 30
  refine (with_is HP2.out HU.out hm rfl).mono ?_
  rintro e w2 ⟨⟨v', rfl, hv⟩, hb2⟩
  have hB2 := hB1.trans (hb2.mono hB1.size)
  have HV := Lib.hid hv; clear hv
  go_wp2
  go_ret
  exact ⟨⟨_, rfl, HV.out⟩, hB2⟩
/-- A comment of whole lines behind none. -/
theorem append_ahead {w : World} {v u : Value} {ps : List Pc} {bl ind : Int} {ss : List ByteArray} (h : Pcs pV w v ps) (hu : Comm w u ss) (hm : (ps.length : Int) ≤ 2147483646) (hr : cleanB ps = false) :
    Calls Tryf.prog 26 #[v, .agg #[.int .i64 2, .int .i64 bl, .int .i64 ind, u]] w fun e w' => (∃ v', e = .returned v' ∧ Pcs pV w' v' (ps ++ [⟨0, 0, ind, []⟩] ++ [⟨2, bl, ind, ss⟩])) ∧ Below w.heap.size w w' := by
  obtain ⟨a, cap, rfl⟩ := h.form
  obtain ⟨ua, ucap, rfl⟩ := hu.form
  have hB1 := below_alloc1 w (.cells #[.int .i64 2, .int .i64 bl, .int .i64 ind, .slice ua ss.length ucap] 26)
  have HP1 := Lib.hid (h.below hB1)
  have HU := Lib.hid (hu.below hB1)
  have HR := Lib.hid hr
  have hm' : (ps.length : Int) ≤ 2147483647 := by omega
  clear h hu hr
  go_enter Tryf.func26, Tryf.ntmps26
  go_wp2_with (go_at_call 32; refine (clean_is HP1.out hm' HR.out).mono ?_; rintro e w' ⟨rfl, rfl⟩)
  go_at_call 30
  refine (with_is (ss := []) HP1.out (Comm.nil _ _ _) hm' rfl).mono ?_
  rintro e w2 ⟨⟨v', rfl, hv⟩, hb2⟩
  have hB2 := hB1.trans (hb2.mono hB1.size)
  have HV := Lib.hid hv; clear hv
  obtain ⟨x0, x1, x2, x3, xf⟩ := box4 ((hb2.block w.heap.size (by simp)).trans (heap_alloc_new w _))
  obtain ⟨a', cap', ev⟩ := HV.out.form
  rw [List.length_append, List.length_singleton] at ev
  subst ev
  have hU := HU.out.below hb2
  go_wp2_with fail
  go_at_call 30
  refine (with_is HV.out hU (by simp; omega) rfl).mono ?_
  rintro e w3 ⟨⟨v'', rfl, hv2⟩, hb3⟩
  have hB3 := hB2.trans (hb3.mono hB2.size)
  have HV2 := Lib.hid hv2; clear hv2
  go_wp2
  go_ret
  exact ⟨⟨_, rfl, HV2.out⟩, hB3⟩
/-- The end of a line without a comment behind a line: the last piece takes it in. -/
theorem append_into {w : World} {v u : Value} {qs : List Pc} {q : Pc} {bl ind : Int} (h : Pcs pV w v (qs ++ [q])) (hu : Comm w u []) (hm : ((qs ++ [q]).length : Int) ≤ 2147483647) (hr : cleanB (qs ++ [q]) = true) (h1 : 0 ≤ q.bl) (h2 : q.bl ≤ 1000000) (h3 : 0 ≤ bl) (h4 : bl ≤ 1000000) :
    Calls Tryf.prog 26 #[v, .agg #[.int .i64 0, .int .i64 bl, .int .i64 ind, u]] w fun e w' => (∃ v', e = .returned v' ∧ Pcs pV w' v' (qs ++ [{ q with ind := ind, bl := q.bl + bl }])) ∧ Below w.heap.size w w' := by
  obtain ⟨a, cap, ev⟩ := h.form
  have hm2 : (qs.length : Int) ≤ 2147483646 := by rw [List.length_append, List.length_singleton] at hm; omega
  rw [List.length_append, List.length_singleton] at ev
  subst ev
  have HM := Lib.hid hm; clear hm
  obtain ⟨ua, ucap, rfl⟩ := hu.form
  have hB1 := below_alloc1 w (.cells #[.int .i64 0, .int .i64 bl, .int .i64 ind, .slice ua 0 ucap] 26)
  have HP1 := Lib.hid (h.below hB1)
  have HR := Lib.hid hr
  have hcap : (qs.length : Int) + 1 ≤ cap := by have := h.cap; omega
  clear h hu hr
  obtain ⟨b, off, u', rfl, hlt, hu', c0, c1, c2, c3⟩ := HP1.out.atP (i := qs.length) (p := q) (by simp)
  obtain ⟨ub, ucap', rfl⟩ := hu'.form
  have HU' := Lib.hid hu'; clear hu'
  go_enter Tryf.func26, Tryf.ntmps26
  go_wp2_with (go_at_call 32; refine (clean_is HP1.out HM.out HR.out).mono ?_; rintro e w' ⟨rfl, rfl⟩)
  have hBB : Below (w.alloc (.cells #[.int .i64 0, .int .i64 bl, .int .i64 ind, .slice ua 0 ucap] 26)).heap.size (w.alloc (.cells #[.int .i64 0, .int .i64 bl, .int .i64 ind, .slice ua 0 ucap] 26)) (((w.alloc (.cells #[.int .i64 0, .int .i64 bl, .int .i64 ind, .slice ua 0 ucap] 26)).alloc (.cells #[.int .i64 q.k, .int .i64 (q.bl + bl), .int .i64 ind, .slice ub q.ss.length ucap'] 26))).drew := (below_alloc1 _ _).drew
  have hP7 : Pcs pV (((w.alloc (.cells #[.int .i64 0, .int .i64 bl, .int .i64 ind, .slice ua 0 ucap] 26)).alloc (.cells #[.int .i64 q.k, .int .i64 (q.bl + bl), .int .i64 ind, .slice ub q.ss.length ucap'] 26))).drew (.slice (some ⟨b, off, none⟩) qs.length cap) qs := by
    have := (HP1.out.take pV4 (j := qs.length) (cap' := cap) (by simp) (by omega)).below hBB
    rwa [List.take_left] at this
  have HP7 := Lib.hid hP7; clear hP7
  have HU7 := Lib.hid (HU'.out.below hBB)
  have hB7 := hB1.trans (hBB.mono hB1.size)
  clear hBB
  have hz0 : (0 : Int) ≤ (qs.length : Int) := by omega
  have hz1 : (qs.length : Int) ≤ cap := by omega
  have hz2 : IntKind.i64.wrap (qs.length : Int) = qs.length := IntWalk.i64_in _ (by omega)
  obtain ⟨x0, x1, x2, x3, xf⟩ : (((w.alloc (.cells #[.int .i64 0, .int .i64 bl, .int .i64 ind, .slice ua 0 ucap] 26)).alloc (.cells #[.int .i64 q.k, .int .i64 (q.bl + bl), .int .i64 ind, .slice ub q.ss.length ucap'] 26))).cell? ⟨w.heap.size + 1, 0, none⟩ = some (.int .i64 q.k) ∧ (((w.alloc (.cells #[.int .i64 0, .int .i64 bl, .int .i64 ind, .slice ua 0 ucap] 26)).alloc (.cells #[.int .i64 q.k, .int .i64 (q.bl + bl), .int .i64 ind, .slice ub q.ss.length ucap'] 26))).cell? ⟨w.heap.size + 1, 1, none⟩ = some (.int .i64 (q.bl + bl)) ∧ (((w.alloc (.cells #[.int .i64 0, .int .i64 bl, .int .i64 ind, .slice ua 0 ucap] 26)).alloc (.cells #[.int .i64 q.k, .int .i64 (q.bl + bl), .int .i64 ind, .slice ub q.ss.length ucap'] 26))).cell? ⟨w.heap.size + 1, 2, none⟩ = some (.int .i64 ind) ∧ (((w.alloc (.cells #[.int .i64 0, .int .i64 bl, .int .i64 ind, .slice ua 0 ucap] 26)).alloc (.cells #[.int .i64 q.k, .int .i64 (q.bl + bl), .int .i64 ind, .slice ub q.ss.length ucap'] 26))).cell? ⟨w.heap.size + 1, 3, none⟩ = some (.slice ub q.ss.length ucap') ∧ ∀ j, (((w.alloc (.cells #[.int .i64 0, .int .i64 bl, .int .i64 ind, .slice ua 0 ucap] 26)).alloc (.cells #[.int .i64 q.k, .int .i64 (q.bl + bl), .int .i64 ind, .slice ub q.ss.length ucap'] 26))).frozen? ⟨w.heap.size + 1, j, none⟩ = false := by
    have := box4 (w := w.alloc (.cells #[.int .i64 0, .int .i64 bl, .int .i64 ind, .slice ua 0 ucap] 26)) (heap_alloc_new (w.alloc (.cells #[.int .i64 0, .int .i64 bl, .int .i64 ind, .slice ua 0 ucap] 26)) (.cells #[.int .i64 q.k, .int .i64 (q.bl + bl), .int .i64 ind, .slice ub q.ss.length ucap'] 26))
    simp at this ⊢
  go_region_held3 (Stay (((w.alloc (.cells #[.int .i64 0, .int .i64 bl, .int .i64 ind, .slice ua 0 ucap] 26)).alloc (.cells #[.int .i64 q.k, .int .i64 (q.bl + bl), .int .i64 ind, .slice ub q.ss.length ucap'] 26)))) (first | (with_reducible assumption) | (exact stay_start _) | (exact stay_step (by assumption) hb3)) ((go_at_call 30; refine (with_is (k := q.k) (bl := q.bl + bl) (ind := ind) (ss := q.ss) HP7.out HU7.out (by omega) rfl).mono ?_; rintro e w3 ⟨⟨v', rfl, hv⟩, hb3⟩))
  all_goals
    have hB3 := hB7.trans (hb3.mono hB7.size)
    have HV := Lib.hid hv; clear hv
    go_wp2
    go_ret
    exact ⟨⟨_, rfl, HV.out⟩, hB3⟩

/-- spec.Append. -/
theorem append_pcs {w : World} {v u : Value} {ps : List Pc} {p : Pc} (h : Pcs pV w v ps) (hu : Comm w u p.ss) (hm : (ps.length : Int) ≤ 2147483646) (hk : p.k = 0 ∨ p.k = 1 ∨ p.k = 2) (hb : 0 ≤ p.bl ∧ p.bl ≤ 1000000) (hbs : ∀ q ∈ ps, 0 ≤ q.bl ∧ q.bl ≤ 1000000) :
    Calls Tryf.prog 26 #[v, .agg #[.int .i64 p.k, .int .i64 p.bl, .int .i64 p.ind, u]] w fun e w' => (∃ v', e = .returned v' ∧ Pcs pV w' v' (appendP ps p)) ∧ Below w.heap.size w w' := by
  obtain ⟨k, bl, ind, ss⟩ := p
  simp only at hu hk hb
  cases hr : cleanB ps
  · by_cases h2 : k = 2
    · subst h2
      have e : appendP ps ⟨2, bl, ind, ss⟩ = ps ++ [⟨0, 0, ind, []⟩] ++ [⟨2, bl, ind, ss⟩] := by simp [appendP, hr]
      rw [e]
      exact append_ahead h hu hm hr
    · have e : appendP ps ⟨k, bl, ind, ss⟩ = ps ++ [⟨k, bl, ind, ss⟩] := by simp [appendP, hr, h2]
      rw [e]
      exact append_plain h hu (by omega) false hr (.inr ⟨rfl, h2⟩)
  · by_cases h0 : k = 0
    · subst h0
      rcases Nat.eq_zero_or_pos ss.length with h1 | h1
      · obtain rfl := List.eq_nil_of_length_eq_zero h1
        rcases nil_or_snoc ps with rfl | ⟨qs, q, rfl⟩
        · simp [cleanB] at hr
        · have e : appendP (qs ++ [q]) ⟨0, bl, ind, []⟩ = qs ++ [{ q with ind := ind, bl := q.bl + bl }] := by simp [appendP, hr, lastPlus]
          rw [e]
          have := hbs q (by simp)
          exact append_into h hu (by omega) hr this.1 this.2 hb.1 hb.2
      · have e : appendP ps ⟨0, bl, ind, ss⟩ = ps ++ [⟨2, bl, ind, ss⟩] := by simp [appendP, hr, h1]
        rw [e]
        exact append_lines h hu (by omega) hr (by omega)
    · have e : appendP ps ⟨k, bl, ind, ss⟩ = ps ++ [⟨k, bl, ind, ss⟩] := by simp [appendP, hr, h0]
      rw [e]
      exact append_plain h hu (by omega) true hr (.inl ⟨rfl, h0⟩)
end Go.Proofs.YthlnciihabhmaaaFmt
