/-
  (*passes.EnforceMaxBlankLines).FodderElement, impl.LimitBlanks, spec.Limited: what they make of a piece. Conditions: the comment's length.
-/
import Derived.Test.YthlnciihabhmaaaVar
namespace Go.Proofs.Ythlnciihabhmaaa
open Go.ChangeShapes Go.WideShapes Go.ChangeAt Go.RowKit Go.Joins

theorem below_drew1 (w : World) : Below w.heap.size w w.drew := ⟨rfl, rfl, rfl, Nat.le_refl _, fun _ _ => rfl⟩
/-- So many blank lines at most. -/
def limB (m k bl : Int) : Int := if k ≠ 1 ∧ m < bl then m else bl
/-- Four cells in a block. -/
abbrev Box4 (w : World) (E : Nat) (t : TypeId) (c0 c1 c2 c3 : Value) : Prop := w.heap[E]? = some (.cells #[c0, c1, c2, c3] t)
theorem Box4.cells {w : World} {E : Nat} {t : TypeId} {c0 c1 c2 c3 : Value} (h : Box4 w E t c0 c1 c2 c3) :
    w.cell? ⟨E, 0, none⟩ = some c0 ∧ w.cell? ⟨E, 1, none⟩ = some c1 ∧ w.cell? ⟨E, 2, none⟩ = some c2 ∧ w.cell? ⟨E, 3, none⟩ = some c3 ∧ ∀ j, w.frozen? ⟨E, j, none⟩ = false :=
  ⟨cell_of_row _ _ 0 _ _ _ h, cell_of_row _ _ 1 _ _ _ h, cell_of_row _ _ 2 _ _ _ h, cell_of_row _ _ 3 _ _ _ h, fun j => unfrozen_of_block h j⟩
theorem Box4.lt {w : World} {E : Nat} {t : TypeId} {c0 c1 c2 c3 : Value} (h : Box4 w E t c0 c1 c2 c3) : E < w.heap.size := by
  rcases Nat.lt_or_ge E w.heap.size with hlt | hge
  · exact hlt
  · unfold Box4 at h; rw [Array.getElem?_eq_none hge] at h; cases h
theorem Box4.below {w w' : World} {E : Nat} {t : TypeId} {c0 c1 c2 c3 : Value} (h : Box4 w E t c0 c1 c2 c3) (hb : Below w.heap.size w w') : Box4 w' E t c0 c1 c2 c3 := (hb.block E h.lt).trans h
theorem Box4.drew {w : World} {E : Nat} {t : TypeId} {c0 c1 c2 c3 : Value} (h : Box4 w E t c0 c1 c2 c3) : Box4 w.drew E t c0 c1 c2 c3 := h
theorem Box4.set2 {w : World} {E : Nat} {t : TypeId} {c0 c1 c2 c3 : Value} (h : Box4 w E t c0 c1 c2 c3) (u : Value) : Box4 (w.setCell ⟨E, 2, none⟩ u) E t c0 c1 u c3 := by
  unfold Box4 at h ⊢
  simp [World.setCell, Array.getElem?_modify, h]

theorem limitE {w : World} {B E : Nat} {u : Value} {m k bl ind : Int} (hE : Box4 w E 58 u (.int .i64 k) (.int .i64 bl) (.int .i64 ind)) (hm : w.cell? ⟨B, 1, none⟩ = some (.int .i64 m)) :
    Calls Try.prog 31 #[.pointer (some ⟨B, 0, none⟩), .iface 47 (.pointer (some ⟨B, 0, none⟩)), .pointer (some ⟨E, 0, none⟩), .nilIface] w fun e w' => e = .returned (.tuple #[]) ∧ Box4 w' E 58 u (.int .i64 k) (.int .i64 (limB m k bl)) (.int .i64 ind) ∧ Only (fun b => b = E) w w' := by
  obtain ⟨x0, x1, x2, x3, xf⟩ := hE.cells
  have HE := Lib.hid hE; clear hE
  by_cases hk : k = 1
  · have hk2 : (k == 1) = true := by simp [hk]
    have HL := Lib.hid (show limB m k bl = bl by simp [limB, hk])
    clear hk
    go_enter Try.func31, Try.ntmps31
    go_wp2
    go_end0
    rw [HL.out]
    exact ⟨rfl, HE.out, Only.refl _ _⟩
  · have hk2 : (k == 1) = false := by simp [hk]
    by_cases hb : m < bl
    · have HL := Lib.hid (show limB m k bl = m by simp [limB, hk, hb])
      clear hk
      go_enter Try.func31, Try.ntmps31
      go_wp2_with fail
      refine wp_region_quiet_C (fun x => x = w.drew) (by kernel_rfl) (by kernel_rfl) (rfl) ?_
      repeat (first
        | (refine wpQ_skip (by rfl) ?_; simp only [Act.put, List.setIfInBounds_toArray, List.set_cons_zero, List.set_cons_succ])
        | (refine wpQ_value (v := ?_) (by rfl) ?_ ?_; rotate_left; (intro w hw; go_simp; done); simp only [Act.put, List.setIfInBounds_toArray, List.set_cons_zero, List.set_cons_succ])
        | (refine wpQ_value (v := ?_) (by rfl) ?_ ?_; rotate_left; (intro w hw; go_simp; with_reducible rfl); simp only [Act.put, List.setIfInBounds_toArray, List.set_cons_zero, List.set_cons_succ])
        | (refine wpQ_call (f := ?_) (args := ?_) (v := ?_) (by rfl) ?_ ?_ ?_; rotate_left 3; (intro w hw; go_simp; first | with_reducible rfl | (constructor; with_reducible rfl; with_reducible rfl)); (intro w hw; first | fail); simp only [Act.put, List.setIfInBounds_toArray, List.set_cons_zero, List.set_cons_succ]))
      refine wpQuiet_nil ?_
      rintro w1 rfl
      go_wp2
      go_end0
      rw [HL.out]
      exact ⟨rfl, HE.out.drew.set2 _, ((Only.refl (fun b => b = E) w).set (p := ⟨E, 2, none⟩) (.inr rfl) _).drew⟩
    · have HL := Lib.hid (show limB m k bl = bl by simp [limB, hb])
      clear hk
      go_enter Try.func31, Try.ntmps31
      go_wp2_with fail
      refine wp_region_quiet_C (fun x => x = w.drew) (by kernel_rfl) (by kernel_rfl) (rfl) ?_
      repeat (first
        | (refine wpQ_skip (by rfl) ?_; simp only [Act.put, List.setIfInBounds_toArray, List.set_cons_zero, List.set_cons_succ])
        | (refine wpQ_value (v := ?_) (by rfl) ?_ ?_; rotate_left; (intro w hw; go_simp; done); simp only [Act.put, List.setIfInBounds_toArray, List.set_cons_zero, List.set_cons_succ])
        | (refine wpQ_value (v := ?_) (by rfl) ?_ ?_; rotate_left; (intro w hw; go_simp; with_reducible rfl); simp only [Act.put, List.setIfInBounds_toArray, List.set_cons_zero, List.set_cons_succ])
        | (refine wpQ_call (f := ?_) (args := ?_) (v := ?_) (by rfl) ?_ ?_ ?_; rotate_left 3; (intro w hw; go_simp; first | with_reducible rfl | (constructor; with_reducible rfl; with_reducible rfl)); (intro w hw; first | fail); simp only [Act.put, List.setIfInBounds_toArray, List.set_cons_zero, List.set_cons_succ]))
      refine wpQuiet_nil ?_
      rintro w1 rfl
      go_wp2
      go_end0
      rw [HL.out]
      exact ⟨rfl, HE.out.drew, Only.of_below (below_drew1 w)⟩

/-- A result's row, behind what has been written into another block. -/
theorem stayRow_only {W1 w w' : World} {g n : Nat} (h : StayRow W1 g n w) {S : Nat → Prop} (hb : Only S w w') (hS : ∀ k, S k → W1.heap.size ≤ k ∧ k ≠ g) (hn : 0 < n) : StayRow W1 g n w' :=
  ⟨stay_of (h.1.1.trans (hb.below h.1.1.size fun k hk => (hS k hk).1)), hasRow_block h.2 (hb.block g (hasRow_lt h.2 hn) fun hs => (hS g hs).2 rfl)⟩
theorem implLimit {w : World} {v : Value} {ss : List ByteArray} {m k bl ind : Int} (h : Comm w v ss) (hn : ss.length ≤ 1000000) :
    Calls Try.prog 17 #[.int .i64 m, .agg #[.int .i64 k, .int .i64 bl, .int .i64 ind, v]] w fun e w' => (∃ v', e = .returned (.agg #[.int .i64 k, .int .i64 (limB m k bl), .int .i64 ind, v']) ∧ Comm w' v' ss) ∧ Below w.heap.size w w' := by
  obtain ⟨a, cap, rfl⟩ := h.form
  have hB3 : Below w.heap.size w (((w.alloc (.cells #[.int .i64 k, .int .i64 bl, .int .i64 ind, .slice a ss.length cap] 29)).alloc (.cells #[.int .i64 0, .int .i64 0, .int .i64 0, .slice none 0 0] 29)).alloc (.cells #[.int .i64 0, .int .i64 m, .int .i64 0, .int .i64 0, .bool false, .bool false, .bool false, .bool false, .bool false, .bool false, .bool false, .bool false] 55)) := below_alloc3 _ _ _ _
  have HC := Lib.hid (h.below hB3); clear h
  have S0 := Lib.hid (stayRow_alloc (stayRow_base (w.alloc (.cells #[.int .i64 k, .int .i64 bl, .int .i64 ind, .slice a ss.length cap] 29)) #[.int .i64 0, .int .i64 0, .int .i64 0, .slice none 0 0] 29 (w.heap.size + 1) 4 (by simp) rfl) (by decide) (.cells #[.int .i64 0, .int .i64 m, .int .i64 0, .int .i64 0, .bool false, .bool false, .bool false, .bool false, .bool false, .bool false, .bool false, .bool false] 55))
  have HM := Lib.hid (show ((((w.alloc (.cells #[.int .i64 k, .int .i64 bl, .int .i64 ind, .slice a ss.length cap] 29)).alloc (.cells #[.int .i64 0, .int .i64 0, .int .i64 0, .slice none 0 0] 29)).alloc (.cells #[.int .i64 0, .int .i64 m, .int .i64 0, .int .i64 0, .bool false, .bool false, .bool false, .bool false, .bool false, .bool false, .bool false, .bool false] 55))).heap[w.heap.size + 1 + 1]? = some (.cells #[.int .i64 0, .int .i64 m, .int .i64 0, .int .i64 0, .bool false, .bool false, .bool false, .bool false, .bool false, .bool false, .bool false, .bool false] 55) by simpa using heap_alloc_new ((w.alloc (.cells #[.int .i64 k, .int .i64 bl, .int .i64 ind, .slice a ss.length cap] 29)).alloc (.cells #[.int .i64 0, .int .i64 0, .int .i64 0, .slice none 0 0] 29)) (.cells #[.int .i64 0, .int .i64 m, .int .i64 0, .int .i64 0, .bool false, .bool false, .bool false, .bool false, .bool false, .bool false, .bool false, .bool false] 55))
  go_enter Try.func17, Try.ntmps17
  go_wp2_with fail
  refine (element_far k bl ind HC.out hn).mono ?_
  rintro e w4 ⟨⟨u4, rfl, hu4, hf4⟩, hb4⟩
  obtain ⟨ua4, ucap4, rfl⟩ := hu4.form
  have S4 := Lib.hid (stayRow_step S0.out hb4 (by decide))
  have hB4 := hB3.trans (hb4.mono hB3.size)
  have hz4 := hb4.size
  have M4 := Lib.hid (((hb4.trans ((below_alloc1 w4 (.cells #[.slice ua4 ss.length ucap4, .int .i64 k, .int .i64 bl, .int .i64 ind] 58)).mono hz4)).block (w.heap.size + 1 + 1) (by simp)).trans HM.out)
  have U4 := Lib.hid hu4
  have F4 := Lib.hid hf4
  have E5 := Lib.hid (heap_alloc_new w4 (.cells #[.slice ua4 ss.length ucap4, .int .i64 k, .int .i64 bl, .int .i64 ind] 58))
  have S5 := Lib.hid (stayRow_alloc S4.out (by decide) (.cells #[.slice ua4 ss.length ucap4, .int .i64 k, .int .i64 bl, .int .i64 ind] 58))
  have hz5 : w.heap.size + 1 + 1 < w4.heap.size := by simp at hz4; omega
  clear hu4 hb4 hz4 hf4
  go_wp2_with fail
  refine (limitE (m := m) (k := k) (bl := bl) (ind := ind) (u := .slice ua4 ss.length ucap4) E5.out (cell_of_row _ _ 1 _ _ _ M4.out)).mono ?_
  rintro e w6 ⟨rfl, hE6, hO6⟩
  obtain ⟨x0, x1, x2, x3, xf⟩ := hE6.cells
  have S6 := Lib.hid (stayRow_only S5.out hO6 (fun k hk => ⟨by simp; omega, by omega⟩) (by decide))
  have U6 := Lib.hid ((U4.out.below (below_alloc1 w4 (.cells #[.slice ua4 ss.length ucap4, .int .i64 k, .int .i64 bl, .int .i64 ind] 58))).only hO6 (fun b hb h0 e => by
    obtain ⟨b', hb', hlt⟩ := U4.out.lt h0
    rw [hb'] at hb
    injection hb with hb
    omega))
  clear hE6 hO6
  go_wp2_with fail
  refine (implPiece_any k (limB m k bl) ind ua4 ss.length ucap4 _).mono ?_
  rintro e w7 ⟨rfl, hb7⟩
  have hS := stayRow_step S6.out hb7 (by decide)
  have U7 := Lib.hid (U6.out.below hb7)
  have r0 := hS.2.1 0 (by decide)
  have r1 := hS.2.1 1 (by decide)
  have r2 := hS.2.1 2 (by decide)
  have r3 := hS.2.1 3 (by decide)
  have rf := hS.2.2
  clear x0 x1 x2 x3 xf hb7
  go_wp2
  have hE := stayRow_set (p := ⟨w.heap.size + 1, 3, none⟩) (stayRow_set (p := ⟨w.heap.size + 1, 2, none⟩) (stayRow_set (p := ⟨w.heap.size + 1, 1, none⟩) (stayRow_set (p := ⟨w.heap.size + 1, 0, none⟩) hS (by simp) (.int .i64 k)) (by simp) (.int .i64 (limB m k bl))) (by simp) (.int .i64 ind)) (by simp) (.slice ua4 ss.length ucap4)
  obtain ⟨q0, q1, q2, q3⟩ := row4 hE
  refine bodyPost_ret (v := .agg #[.int .i64 k, .int .i64 (limB m k bl), .int .i64 ind, .slice ua4 ss.length ucap4]) (by simp [results, Try.results17, go_sem, q0, q1, q2, q3]) rfl ⟨⟨_, rfl, ?_⟩, (below_alloc1 w (.cells #[.int .i64 k, .int .i64 bl, .int .i64 ind, .slice a ss.length cap] 29)).trans (hE.1.1.mono (by simp))⟩
  have hO : Only (fun b => b = w.heap.size + 1) w7 ((((w7.setCell ⟨w.heap.size + 1, 0, none⟩ (.int .i64 k)).setCell ⟨w.heap.size + 1, 1, none⟩ (.int .i64 (limB m k bl))).setCell ⟨w.heap.size + 1, 2, none⟩ (.int .i64 ind)).setCell ⟨w.heap.size + 1, 3, none⟩ (.slice ua4 ss.length ucap4)) :=
    ((((Only.refl (fun b => b = w.heap.size + 1) w7).set (p := ⟨w.heap.size + 1, 0, none⟩) (.inr rfl) _).set (p := ⟨w.heap.size + 1, 1, none⟩) (.inr rfl) _).set (p := ⟨w.heap.size + 1, 2, none⟩) (.inr rfl) _).set (p := ⟨w.heap.size + 1, 3, none⟩) (.inr rfl) _
  exact U7.out.only hO (fun b hb h0 e => by
    obtain ⟨b', hb', hle⟩ := F4.out h0
    rw [hb'] at hb
    injection hb with hb
    simp at hle
    omega)

theorem specLimited {w : World} {v : Value} {ss : List ByteArray} {m k bl ind : Int} (h : Comm w v ss) :
    Calls Try.prog 18 #[.int .i64 m, .agg #[.int .i64 k, .int .i64 bl, .int .i64 ind, v]] w fun e w' => e = .returned (.agg #[.int .i64 k, .int .i64 (limB m k bl), .int .i64 ind, v]) ∧ Below w.heap.size w w' := by
  obtain ⟨a, cap, rfl⟩ := h.form
  clear h
  by_cases hk : k = 1
  · subst hk
    have HL := Lib.hid (show limB m 1 bl = bl by simp [limB])
    rw [HL.out]
    go_enter Try.func18, Try.ntmps18
    go_wp2
    exact bodyPost_ret (v := .agg #[.int .i64 1, .int .i64 bl, .int .i64 ind, .slice a ss.length cap]) (by simp [results, Try.results18, go_sem]) rfl ⟨rfl, below_alloc2 _ _ _⟩
  · have hk2 : (k == 1) = false := by simp [hk]
    have hk3 : (k != 1) = true := by simp [hk]
    by_cases hb : m < bl
    · have HL := Lib.hid (show limB m k bl = m by simp [limB, hk, hb])
      rw [HL.out]
      go_enter Try.func18, Try.ntmps18
      go_wp2
      exact bodyPost_ret (v := .agg #[.int .i64 k, .int .i64 m, .int .i64 ind, .slice a ss.length cap]) (by simp [results, Try.results18, go_sem]) rfl ⟨rfl, below_alloc2 _ _ _⟩
    · have HL := Lib.hid (show limB m k bl = bl by simp [limB, hb])
      rw [HL.out]
      go_enter Try.func18, Try.ntmps18
      go_wp2
      exact bodyPost_ret (v := .agg #[.int .i64 k, .int .i64 bl, .int .i64 ind, .slice a ss.length cap]) (by simp [results, Try.results18, go_sem]) rfl ⟨rfl, below_alloc2 _ _ _⟩
end Go.Proofs.Ythlnciihabhmaaa
