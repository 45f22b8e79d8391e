/-
  FnMakePiece's walk: a sound piece is made as it is told. Conditions: the comment reads as a list of texts.
-/
import Derived.Test.YthlnciihabhmaaaFmtMakePiece
import Derived.Deep.RegionHeld3
namespace Go.Proofs.YthlnciihabhmaaaFmt
open Go.ChangeShapes Go.WideShapes Go.ChangeAt Go.RowKit Go.Joins

theorem fits3_comm {w : World} {v : Value} {ss : List ByteArray} (h : Comm w v ss) (hm : (ss.length : Int) ≤ 9223372036854775807) :
    Calls Tryf.prog 17 #[v] w fun e w' => IsBool e ∧ w = w' := by
  rcases h with ⟨rfl, a, cap, rfl⟩ | ⟨_, b, off, cap, rfl, hlt, hc⟩
  · exact fits3_none a cap w
  · exact fits3_row ss b off cap w hm hc
theorem implMake_comm {w : World} {v : Value} {ss : List ByteArray} {k bl ind : Int} (h : Comm w v ss) (hk : KindP k bl ind ss.length) (hm : ss.length ≤ 1000000) :
    Calls Tryf.prog 19 #[.int .i64 k, .int .i64 bl, .int .i64 ind, v] w fun e w' => (∃ v', e = .returned (.agg #[.int .i64 k, .int .i64 bl, .int .i64 ind, v']) ∧ Comm w' v' ss) ∧ Below w.heap.size w w' := by
  rcases h with ⟨rfl, a, cap, rfl⟩ | ⟨h0, b, off, cap, rfl, hlt, hc⟩
  · exact implMake_emp k bl ind a cap w hk
  · exact implMake_row k bl ind ss b off cap w hk h0 hm hlt hc
theorem make_walk {W : World} {v : Value} {ss : List ByteArray} {k bl ind : Int} (h : Comm W v ss) (hm : (ss.length : Int) ≤ 9223372036854775807) :
    Calls Tryf.prog 4 #[.int .i64 k, .int .i64 bl, .int .i64 ind, v] W fun e W' => e = .returned (.bool true) ∧ Below W.heap.size W W' := by
  obtain ⟨a, cap, rfl⟩ := h.form
  have HC := Lib.hid h; clear h
  have hB1 := below_alloc1 W (.cells #[.int .i64 k, .int .i64 bl, .int .i64 ind, .slice a ss.length cap] 26)
  go_enter Tryf.func4, Tryf.ntmps4
  go_wp2_with fail
  go_at_call 17
  refine (fits3_comm HC.out hm).mono ?_
  rintro e w' ⟨⟨r, rfl⟩, rfl⟩
  cases r
  · go_wp2
    go_ret
    exact ⟨rfl, Below.refl _ _⟩
  have C1 := Lib.hid (HC.out.below hB1)
  have X1 := Lib.hid (heap_alloc_new W (.cells #[.int .i64 k, .int .i64 bl, .int .i64 ind, .slice a ss.length cap] 26))
  go_wp2_with fail
  go_at_call 14
  refine (sound_comm k bl ind C1.out hm).mono ?_
  rintro e w2 ⟨⟨r, rfl, hr⟩, hb2⟩
  have hB2 := hB1.trans (hb2.mono hB1.size)
  cases r
  · clear hr
    go_wp2
    go_ret
    exact ⟨rfl, hB2⟩
  have SP := Lib.hid (hr rfl)
  clear hr
  have HK := Lib.hid SP.out.2.2.2.2
  have hss : ss.length ≤ 1000000 := Nat.le_trans SP.out.2.2.1 (by omega)
  have X2 : w2.heap[W.heap.size]? = some (.cells #[.int .i64 k, .int .i64 bl, .int .i64 ind, .slice a ss.length cap] 26) := (hb2.block W.heap.size (by simp)).trans X1.out
  have C2 := Lib.hid (C1.out.below hb2)
  have hz2 : W.heap.size < w2.heap.size := by have := hb2.size; simp at this; omega
  obtain ⟨x0, x1, x2, x3, xf⟩ : w2.cell? ⟨W.heap.size, 0, none⟩ = some (.int .i64 k) ∧ w2.cell? ⟨W.heap.size, 1, none⟩ = some (.int .i64 bl) ∧ w2.cell? ⟨W.heap.size, 2, none⟩ = some (.int .i64 ind) ∧ w2.cell? ⟨W.heap.size, 3, none⟩ = some (.slice a ss.length cap) ∧ ∀ j, w2.frozen? ⟨W.heap.size, j, none⟩ = false :=
    ⟨cell_of_row _ _ 0 _ _ _ X2, cell_of_row _ _ 1 _ _ _ X2, cell_of_row _ _ 2 _ _ _ X2, cell_of_row _ _ 3 _ _ _ X2, fun j => unfrozen_of_block X2 j⟩
  clear X2 hb2
  go_wp2_with fail
  go_region_held3 (Stay w2) (first | (with_reducible assumption) | (exact stay_start _) | (exact stay_step (by assumption) (by assumption)))
    ((first
      | (go_at_call 19; with_reducible (refine (implMake_comm (C2.out.below (And.left ‹Stay w2 _›)) HK.out hss).mono ?_); rintro e w3 ⟨⟨v3, rfl, hv3⟩, hb3⟩; obtain ⟨a3, c3, rfl⟩ := hv3.form; have V3 := Lib.hid hv3; clear hv3)
      | (go_at_call 13; with_reducible (refine (piece_any k bl ind a3 ss.length c3 _).mono ?_); rintro e w4 ⟨rfl, hb4⟩)
      | (go_at_call 18; with_reducible (refine (samePiece_comm k bl ind (V3.out.below hb4) (C2.out.below (And.left ‹Stay w2 _›)) hm).mono ?_); rintro e w5 ⟨rfl, hb5⟩)))
  all_goals
    have hB10 := hB2.trans ((And.left ‹Stay w2 _›).mono hB2.size)
    go_wp2
    go_ret
    exact ⟨rfl, hB10⟩
end Go.Proofs.YthlnciihabhmaaaFmt
