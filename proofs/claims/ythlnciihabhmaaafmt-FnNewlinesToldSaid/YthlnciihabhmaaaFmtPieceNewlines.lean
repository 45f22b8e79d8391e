/-
  FnPieceNewlines: a piece stands for as many newlines as the description says.
-/
import Derived.Test.YthlnciihabhmaaaFmtElem
import Derived.Test.YthlnciihabhmaaaFmtTold
namespace Go.Proofs.YthlnciihabhmaaaFmt
open Go.ChangeShapes Go.WideShapes Go.ChangeAt Go.RowKit Go.Joins

/-- How many newlines a sound piece stands for. -/
def pnl (k bl : Int) (n : Nat) : Int := if k = 0 then 1 else if k = 2 then n + bl else 0

theorem specPN_any (k bl ind : Int) (a : Option Addr) (n cap : Nat) (w : World) (hk : k = 0 ∨ k = 1 ∨ k = 2) (hb : 0 ≤ bl ∧ bl ≤ 1000) (hn : n ≤ 1000000) :
    Calls Tryf.prog 16 #[.agg #[.int .i64 k, .int .i64 bl, .int .i64 ind, .slice a n cap]] w fun e w' => e = .returned (.int .i64 (pnl k bl n)) ∧ Below w.heap.size w w' := by
  rcases hk with rfl | rfl | rfl
  all_goals
    simp only [pnl]
    go_enter Tryf.func16, Tryf.ntmps16
    go_wp2
    go_ret
    exact ⟨rfl, below_alloc1 _ _⟩
theorem astPN_any (k bl ind : Int) (a : Option Addr) (n cap : Nat) (w : World) (hk : k = 0 ∨ k = 1 ∨ k = 2) (hb : 0 ≤ bl ∧ bl ≤ 1000) (hn : n ≤ 1000000) :
    Calls Tryf.prog 36 #[.agg #[.slice a n cap, .int .i64 k, .int .i64 bl, .int .i64 ind]] w fun e w' => e = .returned (.int .i64 (pnl k bl n)) ∧ Below w.heap.size w w' := by
  rcases hk with rfl | rfl | rfl
  all_goals
    simp only [pnl]
    go_enter Tryf.func36, Tryf.ntmps36
    go_wp2
    go_ret
    exact ⟨rfl, below_alloc1 _ _⟩
theorem implPN_comm {w : World} {v : Value} {ss : List ByteArray} (k bl ind : Int) (h : Comm w v ss) (hm : ss.length ≤ 1000000) (hk : k = 0 ∨ k = 1 ∨ k = 2) (hb : 0 ≤ bl ∧ bl ≤ 1000) :
    Calls Tryf.prog 15 #[.agg #[.int .i64 k, .int .i64 bl, .int .i64 ind, v]] w fun e w' => e = .returned (.int .i64 (pnl k bl ss.length)) ∧ Below w.heap.size w w' := by
  have hC := h.below (below_alloc1 w (.cells #[.int .i64 k, .int .i64 bl, .int .i64 ind, v] 24))
  go_enter Tryf.func15, Tryf.ntmps15
  go_wp2_with fail
  go_at_call 37
  refine (element_comm k bl ind hC hm).mono ?_
  rintro e w1 ⟨⟨v', rfl, hc1⟩, hb1⟩
  obtain ⟨a', cap', rfl⟩ := hc1.form
  go_wp2_with fail
  go_at_call 36
  refine (astPN_any k bl ind a' _ cap' w1 hk hb hm).mono ?_
  rintro e w2 ⟨rfl, hb2⟩
  go_wp2
  go_ret
  exact ⟨rfl, ((below_alloc1 _ _).trans (hb1.mono (by simp))).trans (hb2.mono (by have := hb1.size; simp at this; omega))⟩
theorem specPN_comm {w : World} {v : Value} {ss : List ByteArray} (k bl ind : Int) (h : Comm w v ss) (hm : ss.length ≤ 1000000) (hk : k = 0 ∨ k = 1 ∨ k = 2) (hb : 0 ≤ bl ∧ bl ≤ 1000) :
    Calls Tryf.prog 16 #[.agg #[.int .i64 k, .int .i64 bl, .int .i64 ind, v]] w fun e w' => e = .returned (.int .i64 (pnl k bl ss.length)) ∧ Below w.heap.size w w' := by
  obtain ⟨a, cap, rfl⟩ := h.form
  exact specPN_any k bl ind a _ cap w hk hb hm

theorem box_cells {w w' : World} (cs : Array Value) (t : TypeId) (hb : Below (w.heap.size + 1) (w.alloc (.cells cs t)) w') : ∀ j, w'.cell? ⟨w.heap.size, j, none⟩ = cs[j]? := fun j => by
  rw [hb.cell (p := ⟨w.heap.size, j, none⟩) (by simp), World.cell?_alloc_mark]

theorem pn_walk (k bl ind : Int) (a : Option Addr) (cap : Nat) (ss : List ByteArray) (W : World) (hC : Comm W (.slice a ss.length cap) ss) (hm : (ss.length : Int) ≤ 9223372036854775807) :
    Calls Tryf.prog 3 #[.agg #[.int .i64 k, .int .i64 bl, .int .i64 ind, .slice a ss.length cap]] W fun e W' => e = .returned (.bool true) ∧ Below W.heap.size W W' := by
  have hB1 := below_alloc1 W (.cells #[.int .i64 k, .int .i64 bl, .int .i64 ind, .slice a ss.length cap] 24)
  have hC1 := hC.below hB1
  go_enter Tryf.func3, Tryf.ntmps3
  go_wp2_with fail
  go_at_call 12
  refine (fits2_comm k bl ind hC1 hm).mono ?_
  rintro e w2 ⟨⟨r, rfl⟩, hb2⟩
  have hB2 := hB1.trans (hb2.mono (by simp))
  cases r
  · go_wp2_with fail
    go_ret
    exact ⟨rfl, hB2⟩
  have hC2 := hC1.below hb2
  have hb2' : Below (W.heap.size + 1) (W.alloc (.cells #[.int .i64 k, .int .i64 bl, .int .i64 ind, .slice a ss.length cap] 24)) w2 := by simpa using hb2
  have f2 := box_cells _ _ hb2'
  go_wp2_with fail
  go_at_call 13
  refine (piece_comm k bl ind hC2).mono ?_
  rintro e w3 ⟨rfl, hb3⟩
  have hC3 := hC2.below hb3
  have hB3 := hB2.trans (hb3.mono (by have := hb2.size; simp at this; omega))
  have hb3' := hb2'.trans (hb3.mono (by have := hb2.size; simp at this; omega))
  have hl3 : W.heap.size + 1 ≤ w3.heap.size := by have h2 := hb2'.size; have h3 := hb3.size; simp at h2; omega
  clear f2
  have hB4 := hB3.trans ((below_alloc1 w3 (.cells #[.int .i64 k, .int .i64 bl, .int .i64 ind, .slice a ss.length cap] 26)).mono (by omega))
  have hC4 := hC3.below (below_alloc1 w3 (.cells #[.int .i64 k, .int .i64 bl, .int .i64 ind, .slice a ss.length cap] 26))
  have hb4' := hb3'.trans ((below_alloc1 w3 (.cells #[.int .i64 k, .int .i64 bl, .int .i64 ind, .slice a ss.length cap] 26)).mono hl3)
  go_wp2_with fail
  go_at_call 14
  refine (sound_comm k bl ind hC4 hm).mono ?_
  rintro e w5 ⟨⟨r, rfl, hsnd⟩, hb5⟩
  have hB5 := hB4.trans (hb5.mono (by simp; omega))
  have hC5 := hC4.below hb5
  have hb5' := hb4'.trans (hb5.mono (by simp; omega))
  have hb6' : Below (w3.heap.size + 1) (w3.alloc (.cells #[.int .i64 k, .int .i64 bl, .int .i64 ind, .slice a ss.length cap] 26)) w5 := by simpa using hb5
  have g5 := box_cells _ _ hb6'
  have f5 := box_cells _ _ hb5'
  have l3 : w3.heap.size < w5.heap.size := by have := hb5.size; simp at this; omega
  have l1 : W.heap.size < w5.heap.size := by omega
  clear hb5' hb6' hb4' hb3' hb2' hC4 hC3 hC2 hC1
  cases r
  · go_wp2_with fail
    go_ret
    exact ⟨rfl, hB5⟩
  obtain ⟨hb, hi, hn, hsz, hk⟩ := hsnd rfl
  have hk' : k = 0 ∨ k = 1 ∨ k = 2 := by omega
  have hn' : ss.length ≤ 1000000 := by omega
  clear hsnd hk hi hn hsz
  by_cases hz : k = 0
  · subst hz
    by_cases hbl : bl > 0
    · go_wp2_with fail
      go_ret
      exact ⟨rfl, hB5⟩
    go_wp2_with fail
    refine wp_region_quiet_C (Stay w5) (by kernel_rfl) (by kernel_rfl) (stay_start _) ?_
    repeat (first
      | (refine wpQ_skip (by rfl) ?_; simp only [Act.put, List.setIfInBounds_toArray, List.set_cons_zero, List.set_cons_succ])
      | (refine wpQ_value (v := ?_) (by rfl) ?_ ?_; rotate_left; (intro w hw; go_simp; done); simp only [Act.put, List.setIfInBounds_toArray, List.set_cons_zero, List.set_cons_succ])
      | (refine wpQ_value (v := ?_) (by rfl) ?_ ?_; rotate_left; (intro w hw; go_simp; with_reducible rfl); simp only [Act.put, List.setIfInBounds_toArray, List.set_cons_zero, List.set_cons_succ])
      | (refine wpQ_call (f := ?_) (args := ?_) (v := ?_) (by rfl) ?_ ?_ ?_; rotate_left 3; (intro w hw; go_simp; first | with_reducible rfl | (constructor; with_reducible rfl; with_reducible rfl)); (intro w hw; first | (refine (implPN_comm 0 bl ind (hC5.below hw.1) hn' (Or.inl rfl) hb).mono ?_; rintro e w'' ⟨rfl, hbw⟩; constructor; with_reducible rfl; exact stay_step hw hbw) | (refine (specPN_comm 0 bl ind (hC5.below hw.1) hn' (Or.inl rfl) hb).mono ?_; rintro e w'' ⟨rfl, hbw⟩; constructor; with_reducible rfl; exact stay_step hw hbw)); simp only [Act.put, List.setIfInBounds_toArray, List.set_cons_zero, List.set_cons_succ]))
    refine wpQuiet_nil ?_
    intro w1 hS1
    go_wp2
    go_ret
    exact ⟨rfl, hB5.trans (hS1.1.mono (by omega))⟩
  have hz' : (k == 0) = false := by simpa using hz
  go_wp2_with fail
  refine wp_region_quiet_C (Stay w5) (by kernel_rfl) (by kernel_rfl) (stay_start _) ?_
  repeat (first
    | (refine wpQ_skip (by rfl) ?_; simp only [Act.put, List.setIfInBounds_toArray, List.set_cons_zero, List.set_cons_succ])
    | (refine wpQ_value (v := ?_) (by rfl) ?_ ?_; rotate_left; (intro w hw; go_simp; done); simp only [Act.put, List.setIfInBounds_toArray, List.set_cons_zero, List.set_cons_succ])
    | (refine wpQ_value (v := ?_) (by rfl) ?_ ?_; rotate_left; (intro w hw; go_simp; with_reducible rfl); simp only [Act.put, List.setIfInBounds_toArray, List.set_cons_zero, List.set_cons_succ])
    | (refine wpQ_call (f := ?_) (args := ?_) (v := ?_) (by rfl) ?_ ?_ ?_; rotate_left 3; (intro w hw; go_simp; first | with_reducible rfl | (constructor; with_reducible rfl; with_reducible rfl)); (intro w hw; first | (refine (implPN_comm _ _ _ (hC5.below hw.1) hn' hk' hb).mono ?_; rintro e w'' ⟨rfl, hbw⟩; constructor; with_reducible rfl; exact stay_step hw hbw) | (refine (specPN_comm _ _ _ (hC5.below hw.1) hn' hk' hb).mono ?_; rintro e w'' ⟨rfl, hbw⟩; constructor; with_reducible rfl; exact stay_step hw hbw)); simp only [Act.put, List.setIfInBounds_toArray, List.set_cons_zero, List.set_cons_succ]))
  refine wpQuiet_nil ?_
  intro w1 hS1
  go_wp2
  go_ret
  exact ⟨rfl, hB5.trans (hS1.1.mono (by omega))⟩

end Go.Proofs.YthlnciihabhmaaaFmt
