/-
  FnAppendKeeps' walk: whatever is appended, all comments stay in their order, and no end of a line comes where it must not. Conditions: the arguments read as pieces.
-/
import Derived.Test.YthlnciihabhmaaaFmtAppendWalk
namespace Go.Proofs.YthlnciihabhmaaaFmt
open Go.ChangeShapes Go.WideShapes Go.ChangeAt Go.RowKit Go.Joins

set_option maxHeartbeats 4000000 in
theorem appendKeeps_walk {W : World} {v0 u : Value} {l0 : List Pc} {p : Pc} (h0 : Pcs pV W v0 l0) (hu : Comm W u p.ss) (hl0 : (l0.length : Int) ≤ 9223372036854775807) (hs0 : ∀ p ∈ l0, (p.ss.length : Int) ≤ 9223372036854775807) (hsp : (p.ss.length : Int) ≤ 9223372036854775807) :
    Calls Tryf.prog 7 #[v0, .agg #[.int .i64 p.k, .int .i64 p.bl, .int .i64 p.ind, u]] W fun e W' => e = .returned (.bool true) ∧ Below W.heap.size W W' := by
  obtain ⟨a0, cap0, rfl⟩ := h0.form
  obtain ⟨ua, ucap, rfl⟩ := hu.form
  have hB0 := below_alloc1 W (.cells #[.int .i64 p.k, .int .i64 p.bl, .int .i64 p.ind, .slice ua p.ss.length ucap] 24)
  have HX0 := Lib.hid (heap_alloc_new W (.cells #[.int .i64 p.k, .int .i64 p.bl, .int .i64 p.ind, .slice ua p.ss.length ucap] 24))
  have H0 := Lib.hid h0
  have HU := Lib.hid hu
  have S0 := Lib.hid hs0
  clear h0 hu hs0
  go_enter Tryf.func7, Tryf.ntmps7
  go_wp2_with fail
  go_at_call 20
  refine (fits1_pcs (H0.out.below hB0) hl0 S0.out).mono ?_
  rintro e w1 ⟨⟨r, rfl, hr⟩, hb1⟩
  have hB1 := hB0.trans (hb1.mono hB0.size)
  have HX1 := Lib.hid ((hb1.block W.heap.size (by simp)).trans HX0.out)
  have hz1 : W.heap.size < w1.heap.size := by have := hb1.size; simp at this; omega
  cases r
  · clear hr hz1
    go_wp2
    go_ret
    exact ⟨rfl, hB1⟩
  have hm0 := hr rfl
  clear hr hb1
  obtain ⟨x0, x1, x2, x3, xf⟩ := box4 HX1.out
  go_wp2_with fail
  go_at_call 12
  refine (fits2_comm p.k p.bl p.ind (HU.out.below hB1) hsp).mono ?_
  rintro e w2 ⟨⟨r, rfl⟩, hb2⟩
  have hB2 := hB1.trans (hb2.mono hB1.size)
  cases r
  · clear hz1 x0 x1 x2 x3 xf
    go_wp2
    go_ret
    exact ⟨rfl, hB2⟩
  have HX2 := Lib.hid ((hb2.block W.heap.size hz1).trans HX1.out)
  have hz2 : W.heap.size < w2.heap.size := by have := hb2.size; omega
  clear hb2 x0 x1 x2 x3 xf
  obtain ⟨x0, x1, x2, x3, xf⟩ := box4 HX2.out
  have H2 := Lib.hid (H0.out.below hB2)
  go_wp2_with fail
  go_cut [5, 6] (fun s5 s6 wc => ∃ ax capx g, s5 = .slice ax l0.length capx ∧ s6 = .pointer (some ⟨g, 0, none⟩) ∧ Pcs pV wc (.slice ax l0.length capx) l0 ∧ wc.heap[g]? = some (.cells #[.int .i64 p.k, .int .i64 p.bl, .int .i64 p.ind, .slice ua p.ss.length ucap] 26) ∧ w2.heap.size ≤ g ∧ Below w2.heap.size w2 wc)
  case first =>
    go_region_held3 (Stay w2) (first | (with_reducible assumption) | (exact stay_start _) | (exact stay_step (by assumption) (by assumption)) | (exact stay_alloc (by assumption) _) | (exact stay_set (stay_set (stay_set (stay_set (by assumption) (by first | exact Nat.le_refl _ | exact hz3 | exact hz4) _) (by first | exact Nat.le_refl _ | exact hz3 | exact hz4) _) (by first | exact Nat.le_refl _ | exact hz3 | exact hz4) _) (by first | exact Nat.le_refl _ | exact hz3 | exact hz4) _) | (exact stay_realloc (by assumption) (by first | exact hz4 | exact hz3 | exact Nat.le_refl _))) ((first | (go_at_call 21; with_reducible (refine (lawsPieces_pcs (ps := l0) (H2.out.below (And.left ‹Stay w2 _›)) hm0).mono ?_); rintro e w3 ⟨⟨x, rfl, hx⟩, hb3⟩; have hz3 := Nat.le_trans (And.left ‹Stay w2 _›).size hb3.size; obtain ⟨ax, capx, rfl⟩ := hx.pcs.form; have HX := Lib.hid hx; clear hx; obtain ⟨hc3, hf3⟩ := bcell hb3; (try (have hq3 : w2.heap.size < w3.heap.size := by (have := hb3.size; simp at this; omega)))) | (go_at_call 13; with_reducible (refine (piece_any p.k p.bl p.ind ua p.ss.length ucap _).mono ?_); rintro e w4 ⟨rfl, hb4⟩; have hz4 := Nat.le_trans (And.left ‹Stay w2 _›).size hb4.size; obtain ⟨hc4, hf4⟩ := bcell hb4; (try (have hq4 : w3.heap.size < w4.heap.size := by (have := hb4.size; simp at this; omega))))))
    all_goals
      have hSS := Lib.hid ‹Stay w2 _›
      clear hc3 hf3 hc4 hf4
      go_wp2_with fail
      go_meet
    · exact ⟨ax, capx, _, rfl, rfl, ((HX.out.below hb4).below (below_alloc1 _ _)).pcs, heap_alloc_new _ _, hz4, hSS.out.1⟩
    · have hZ := (hb4.block w3.heap.size (by simp)).trans (heap_alloc_new w3 _)
      exact ⟨ax, capx, _, rfl, rfl, set4_pcs ((HX.out.below (below_alloc1 _ _)).below hb4) hZ (fun e => by have := (HX.out.lt e).2; omega), set4_heap hZ, hz3, hSS.out.1⟩
    · have hZ := (hb4.block w2.heap.size (by have := hb3.size; simp at this; omega)).trans ((hb3.block w2.heap.size (by simp)).trans (heap_alloc_new w2 _))
      exact ⟨ax, capx, _, rfl, rfl, set4_pcs (HX.out.below hb4) hZ (fun e => by have := (HX.out.lt e).1; simp at this; omega), set4_heap hZ, Nat.le_refl _, hSS.out.1⟩
  case rest =>
    obtain ⟨ax, capx, g, rfl, rfl, hX, hg, hgz, hcB⟩ := hcut
    have X := Lib.hid hX
    have HG := Lib.hid hg
    have hglt : g < wc.heap.size := by
      rcases Nat.lt_or_ge g wc.heap.size with h | h
      · exact h
      · rw [Array.getElem?_eq_none h] at hg; cases hg
    have HB3 := Lib.hid hcB
    have hB3 := hB2.trans (hcB.mono hB2.size)
    clear hX hg hcB
    clear x0 x1 x2 x3 xf
    have HXc := Lib.hid ((HB3.out.block W.heap.size hz2).trans HX2.out)
    have hzc : W.heap.size < wc.heap.size := by have := HB3.out.size; omega
    go_wp2_with fail
    go_at_call 22
    refine (good_pcs X.out hm0 S0.out).mono ?_
    rintro e w5 ⟨⟨r, rfl, hr⟩, hb5⟩
    have hB5 := hB3.trans (hb5.mono hB3.size)
    cases r
    · clear hr
      go_wp2
      go_ret
      exact ⟨rfl, hB5⟩
    have G0 := Lib.hid (good_facts (hr rfl))
    clear hr
    have HG5 := Lib.hid ((hb5.block g hglt).trans HG.out)
    have HX5 := Lib.hid ((hb5.block W.heap.size hzc).trans HXc.out)
    have X5 := Lib.hid (X.out.below hb5)
    have hg5 : g < w5.heap.size := Nat.lt_of_lt_of_le hglt hb5.size
    have hz5 : W.heap.size < w5.heap.size := Nat.lt_of_lt_of_le hzc hb5.size
    clear hb5
    obtain ⟨y0, y1, y2, y3, yf⟩ : w5.cell? ⟨g, 0, none⟩ = some (.int .i64 p.k) ∧ w5.cell? ⟨g, 1, none⟩ = some (.int .i64 p.bl) ∧ w5.cell? ⟨g, 2, none⟩ = some (.int .i64 p.ind) ∧ w5.cell? ⟨g, 3, none⟩ = some (.slice ua p.ss.length ucap) ∧ ∀ j, w5.frozen? ⟨g, j, none⟩ = false :=
      ⟨cell_of_row _ _ 0 _ _ _ HG5.out, cell_of_row _ _ 1 _ _ _ HG5.out, cell_of_row _ _ 2 _ _ _ HG5.out, cell_of_row _ _ 3 _ _ _ HG5.out, fun j => unfrozen_of_block HG5.out j⟩
    go_wp2_with fail
    go_at_call 14
    refine (sound_comm p.k p.bl p.ind (HU.out.below hB5) hsp).mono ?_
    rintro e w6 ⟨⟨r, rfl, hr⟩, hb6⟩
    have hB6 := hB5.trans (hb6.mono hB5.size)
    cases r
    · clear hr
      go_wp2
      go_ret
      exact ⟨rfl, hB6⟩
    have SP := Lib.hid (show p.Sound from hr rfl)
    clear hr y0 y1 y2 y3 yf
    have HG6 := Lib.hid ((hb6.block g hg5).trans HG5.out)
    have HX6 := Lib.hid ((hb6.block W.heap.size hz5).trans HX5.out)
    have X6 := Lib.hid (X5.out.below hb6)
    have H6 := Lib.hid (H0.out.below hB6)
    have U6 := Lib.hid (HU.out.below hB6)
    have hg6 : g < w6.heap.size := Nat.lt_of_lt_of_le hg5 hb6.size
    have hz6 : W.heap.size < w6.heap.size := Nat.lt_of_lt_of_le hz5 hb6.size
    clear hb6 hzc hz5 hg5 hz1 hz2 hglt hgz HB3 X X5 HG HG5 HX5 HXc HX2 HX1 HX0 H2
    obtain ⟨y0, y1, y2, y3, yf⟩ : w6.cell? ⟨g, 0, none⟩ = some (.int .i64 p.k) ∧ w6.cell? ⟨g, 1, none⟩ = some (.int .i64 p.bl) ∧ w6.cell? ⟨g, 2, none⟩ = some (.int .i64 p.ind) ∧ w6.cell? ⟨g, 3, none⟩ = some (.slice ua p.ss.length ucap) ∧ ∀ j, w6.frozen? ⟨g, j, none⟩ = false :=
      ⟨cell_of_row _ _ 0 _ _ _ HG6.out, cell_of_row _ _ 1 _ _ _ HG6.out, cell_of_row _ _ 2 _ _ _ HG6.out, cell_of_row _ _ 3 _ _ _ HG6.out, fun j => unfrozen_of_block HG6.out j⟩
    obtain ⟨x0, x1, x2, x3, xf⟩ := box4 HX6.out
    have n0 : (l0.length : Int) ≤ 1000 := by have := G0.out.len; omega
    have n24 := G0.out.len
    have LA := appendP_len' l0 p
    have hmj : ((appendP l0 p).length : Int) ≤ 2147483647 := by omega
    have hmk : (appendP l0 p).length ≤ 1000 := by omega
    clear LA
    have SK := Lib.hid (sound_kind SP.out)
    have SB := Lib.hid (sound_bl SP.out)
    have SL : p.ss.length ≤ 1000000 := Nat.le_trans SP.out.2.2.1 (by omega)
    have GS : ∀ q ∈ l0, q.ss.length ≤ 1000000 := G0.out.short.le (by omega)
    have GS' := Lib.hid GS; clear GS
    have GB := Lib.hid G0.out.bl
    have KP := Lib.hid (appendP_kept (p := p) G0.out.kept)
    have SA : ∀ q ∈ appendP l0 p, q.ss.length ≤ 1000 := (G0.out.short.appendP SP.out.2.2.1).le (by omega)
    have SA' := Lib.hid SA; clear SA
    have SW : ∀ q ∈ l0 ++ [p], q.ss.length ≤ 1000 := (G0.out.short.append (.one SP.out.2.2.1)).le (by omega)
    have SW' := Lib.hid SW; clear SW
    have hlw : (l0 ++ [p]).length = l0.length + 1 := by simp
    have hmw : ((l0 ++ [p]).length : Int) ≤ 2147483647 := by rw [hlw]; omega
    have hmv : (l0 ++ [p]).length ≤ 1000 := by rw [hlw]; omega
    have HLW := Lib.hid hlw; clear hlw
    have hcb : ((comms l0 ++ p.ss).length : Int) ≤ 9223372036854775807 := by
      have := comms_two n0 G0.out.short (qs := [p]) (by simp) (.one SP.out.2.2.1)
      rw [comms_one] at this
      rw [List.length_append]
      omega
    have hpos := appendP_pos l0 p
    have hne : ¬ appendP l0 p = [] := fun e => by have := appendP_pos l0 p; rw [e] at this; simp at this
    have hne2 : (appendP l0 p).isEmpty = false := by rw [List.isEmpty_eq_false_iff]; exact hne
    go_wp2_with fail
    go_at_call 25
    refine (implAppend (p := p) H6.out U6.out n0 SK.out SB.out GB.out SL GS'.out).mono ?_
    rintro e w7 ⟨⟨z7, rfl, hz7⟩, hb7⟩
    obtain ⟨az7, cz7, rfl⟩ := hz7.form
    have Z7 := Lib.hid hz7; clear hz7
    go_wp2_with fail
    go_at_call 21
    refine (lawsPieces_pcs (ps := appendP l0 p) Z7.out hmj).mono ?_
    rintro e w8 ⟨⟨z8, rfl, hz8⟩, hb8⟩
    obtain ⟨az8, cz8, rfl⟩ := hz8.pcs.form
    have Z8 := Lib.hid hz8.pcs; clear hz8
    have hB7 := hB6.trans (hb7.mono hB6.size)
    have hB8 := hB7.trans (hb8.mono hB7.size)
    have X8 := Lib.hid ((X6.out.below hb7).below hb8)
    have U8 := Lib.hid ((U6.out.below hb7).below hb8)
    have HG8 := Lib.hid ((hb8.block g (Nat.lt_of_lt_of_le hg6 hb7.size)).trans ((hb7.block g hg6).trans HG6.out))
    have hg8 : g < w8.heap.size := Nat.lt_of_lt_of_le hg6 (Nat.le_trans hb7.size hb8.size)
    clear y0 y1 y2 y3 yf x0 x1 x2 x3 xf hb7 hb8 Z7 X6 U6 H6 HX6 HG6 hz6
    obtain ⟨y0, y1, y2, y3, yf⟩ : w8.cell? ⟨g, 0, none⟩ = some (.int .i64 p.k) ∧ w8.cell? ⟨g, 1, none⟩ = some (.int .i64 p.bl) ∧ w8.cell? ⟨g, 2, none⟩ = some (.int .i64 p.ind) ∧ w8.cell? ⟨g, 3, none⟩ = some (.slice ua p.ss.length ucap) ∧ ∀ j, w8.frozen? ⟨g, j, none⟩ = false :=
      ⟨cell_of_row _ _ 0 _ _ _ HG8.out, cell_of_row _ _ 1 _ _ _ HG8.out, cell_of_row _ _ 2 _ _ _ HG8.out, cell_of_row _ _ 3 _ _ _ HG8.out, fun j => unfrozen_of_block HG8.out j⟩
    go_wp2_with fail
    go_region_held3 (Stay w8) (first | (with_reducible assumption) | (exact stay_start _) | (exact stay_step (by assumption) (by assumption)))
      ((first
        | (go_at_call 27; with_reducible (refine (kept_is (ps := appendP l0 p) (Z8.out.below (And.left ‹Stay w8 _›)) hmj KP.out).mono ?_); rintro e wk ⟨rfl, hbk⟩)
        | (go_at_call 29; with_reducible (refine (comments_pcs (ps := appendP l0 p) (Z8.out.below (And.left ‹Stay w8 _›)) hmj SA'.out hmk).mono ?_); rintro e wc1 ⟨⟨t1, rfl, ht1⟩, hbc1⟩; have hT1 := ht1.comm; rw [appendP_comms] at hT1; obtain ⟨at1, ct1, e1⟩ := hT1.form; rw [List.length_append] at e1; subst e1; have T1 := Lib.hid hT1; clear ht1 hT1)
        | (go_at_call 30; with_reducible (refine (with_pcs (p := p) (X8.out.below (And.left ‹Stay w8 _›)) (U8.out.below (And.left ‹Stay w8 _›)) hm0).mono ?_); rintro e ww ⟨⟨v9, rfl, hv⟩, hbw⟩; obtain ⟨av, cv, ev⟩ := hv.pcs.form; rw [HLW.out] at ev; subst ev; have V := Lib.hid hv.pcs; clear hv)
        | (go_at_call 29; with_reducible (refine (comments_pcs (ps := l0 ++ [p]) (by first | exact V.out | exact V.out.below hbc1) hmw SW'.out hmv).mono ?_); rintro e wc2 ⟨⟨t2, rfl, ht2⟩, hbc2⟩; have hT2 := ht2.comm; rw [comms_snoc] at hT2; obtain ⟨at2, ct2, e2⟩ := hT2.form; rw [List.length_append] at e2; subst e2; have T2 := Lib.hid hT2; clear ht2 hT2)
        | (go_at_call 28; with_reducible (refine (sameTexts_comm (ss := comms l0 ++ p.ss) (by first | exact T1.out | exact T1.out.below hbc2 | exact (T1.out.below hbw).below hbc2) (by first | exact T2.out | exact T2.out.below hbc1) hcb).mono ?_); rintro e w10 ⟨rfl, hb10⟩)))
    all_goals
      have hB10 := hB8.trans ((And.left ‹Stay w8 _›).mono hB8.size)
      go_wp2
      go_ret
      exact ⟨rfl, hB10⟩
end Go.Proofs.YthlnciihabhmaaaFmt
