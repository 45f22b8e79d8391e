/-
  FnLimit's walk: blank lines are at most as many as asked for, and all else stays. Conditions: the comment reads as a list of texts.
-/
import Derived.Test.YthlnciihabhmaaaLimit
namespace Go.Proofs.Ythlnciihabhmaaa
open Go.ChangeShapes Go.WideShapes Go.ChangeAt Go.RowKit Go.Joins

theorem limit_walk {W : World} {v : Value} {ss : List ByteArray} {m k bl ind : Int} (h : Comm W v ss) (hm : (ss.length : Int) ≤ 9223372036854775807) :
    Calls Try.prog 4 #[.int .i64 m, .agg #[.int .i64 k, .int .i64 bl, .int .i64 ind, v]] W fun e W' => e = .returned (.bool true) ∧ Below W.heap.size W W' := by
  obtain ⟨a, cap, rfl⟩ := h.form
  have HC := Lib.hid h; clear h
  have hB1 := below_alloc1 W (.cells #[.int .i64 k, .int .i64 bl, .int .i64 ind, .slice a ss.length cap] 29)
  have C1 := Lib.hid (HC.out.below hB1)
  have X1 := Lib.hid (heap_alloc_new W (.cells #[.int .i64 k, .int .i64 bl, .int .i64 ind, .slice a ss.length cap] 29))
  go_enter Try.func4, Try.ntmps4
  go_wp2_with fail
  refine (fits2_comm k bl ind C1.out hm).mono ?_
  rintro e w1 ⟨⟨r, rfl⟩, hb1⟩
  have hB2 := hB1.trans (hb1.mono hB1.size)
  cases r
  · go_wp2
    go_ret
    exact ⟨rfl, hB2⟩
  have X2 := Lib.hid ((hb1.block W.heap.size (by simp)).trans X1.out)
  have C2 := Lib.hid (C1.out.below hb1)
  obtain ⟨x0, x1, x2, x3, xf⟩ := Box4.cells X2.out
  have z2 : W.heap.size < w1.heap.size := by have := hb1.size; simp at this; omega
  clear hb1
  go_wp2_with fail
  refine (piece_any k bl ind a ss.length cap _).mono ?_
  rintro e w2 ⟨rfl, hb2⟩
  have hB3 := hB2.trans (hb2.mono hB2.size)
  have X3 := Lib.hid ((hb2.block W.heap.size z2).trans X2.out)
  have hba := below_alloc1 w2 (.cells #[.int .i64 k, .int .i64 bl, .int .i64 ind, .slice a ss.length cap] 31)
  have C3 := Lib.hid ((C2.out.below hb2).below hba)
  have X4 := Lib.hid ((hba.block W.heap.size (by have := hb2.size; omega)).trans X3.out)
  have Y4 := Lib.hid (heap_alloc_new w2 (.cells #[.int .i64 k, .int .i64 bl, .int .i64 ind, .slice a ss.length cap] 31))
  have z3 : W.heap.size < w2.heap.size := by have := hb2.size; omega
  have hB4 := hB3.trans (hba.mono hB3.size)
  clear hb2 hba x0 x1 x2 x3 xf
  go_wp2_with fail
  refine (sound_comm k bl ind C3.out hm).mono ?_
  rintro e w3 ⟨⟨r, rfl, hr⟩, hb3⟩
  have hB5 := hB4.trans (hb3.mono hB4.size)
  cases r
  · clear hr
    go_wp2
    go_ret
    exact ⟨rfl, hB5⟩
  have SP := Lib.hid (hr rfl)
  clear hr
  have hss : ss.length ≤ 1000000 := Nat.le_trans SP.out.2.2.1 (by omega)
  have C5 := Lib.hid (C3.out.below hb3)
  have X5 := Lib.hid ((hb3.block W.heap.size (by simp; omega)).trans X4.out)
  have Y5 := Lib.hid ((hb3.block w2.heap.size (by simp)).trans Y4.out)
  obtain ⟨x0, x1, x2, x3, xf⟩ := Box4.cells X5.out
  obtain ⟨y0, y1, y2, y3, yf⟩ := Box4.cells Y5.out
  have z5 : w2.heap.size < w3.heap.size := by have := hb3.size; simp at this; omega
  have z6 : W.heap.size < w3.heap.size := by omega
  clear hb3
  by_cases h1 : m < 0
  · go_wp2
    go_ret
    exact ⟨rfl, hB5⟩
  by_cases h2 : 1000 < m
  · go_wp2
    go_ret
    exact ⟨rfl, hB5⟩
  go_wp2_with fail
  go_region_held3 (Stay w3) (first | (with_reducible assumption) | (exact stay_start _) | (exact stay_step (by assumption) (by assumption)))
    ((first
      | (go_at_call 17; with_reducible (refine (implLimit (C5.out.below (And.left ‹Stay w3 _›)) hss).mono ?_); rintro e w4 ⟨⟨v4, rfl, hv4⟩, hb4⟩; obtain ⟨a4, c4, rfl⟩ := hv4.form; have V4 := Lib.hid hv4; clear hv4)
      | (go_at_call 14; with_reducible (refine (piece_any k (limB m k bl) ind a4 ss.length c4 _).mono ?_); rintro e w5 ⟨rfl, hb5⟩; have V5 := Lib.hid (V4.out.below hb5))
      | (go_at_call 18; with_reducible (refine (specLimited (m := m) (C5.out.below (And.left ‹Stay w3 _›))).mono ?_); rintro e w6 ⟨rfl, hb6⟩)
      | (go_at_call 16; with_reducible (refine (samePiece_comm k (limB m k bl) ind (V5.out.below hb6) (C5.out.below (And.left ‹Stay w3 _›)) hm).mono ?_); rintro e w7 ⟨rfl, hb7⟩)))
  all_goals
    have hB10 := hB5.trans ((And.left ‹Stay w3 _›).mono hB5.size)
    go_wp2
    go_ret
    exact ⟨rfl, hB10⟩
end Go.Proofs.Ythlnciihabhmaaa
