/-
  spec.SameTexts, spec.SamePiece over equal texts: they tell that they are equal.
-/
import Derived.Test.YthlnciihabhmaaaElem
namespace Go.Proofs.Ythlnciihabhmaaa
open Go.ChangeShapes Go.WideShapes Go.ChangeAt Go.RowKit Go.Joins

theorem sameTexts_row (ss : List ByteArray) (b off cap b' off' cap' : Nat) (w : World) (hm : (ss.length : Int) ≤ 9223372036854775807) (hlt : b < w.heap.size) (hlt' : b' < w.heap.size) (hc : TextsAt w b off ss) (hc' : TextsAt w b' off' ss) :
    Calls Try.prog 29 #[.slice (some ⟨b, off, none⟩) ss.length cap, .slice (some ⟨b', off', none⟩) ss.length cap'] w fun e w' => e = .returned (.bool true) ∧ Below w.heap.size w w' := by
  go_enter Try.func29, Try.ntmps29
  go_wp2
  go_loopw [13] (fun i wr => ∃ j : Nat, j ≤ ss.length ∧ i = .int .i64 j ∧ Below w.heap.size w wr) (fun i _ => ss.length - (intOf i).toNat)
  case atStart => exact ⟨0, Nat.zero_le _, rfl, Below.refl _ _⟩
  case round =>
    obtain ⟨j, hj, rfl, hB⟩ := hrel
    by_cases hjl : j < ss.length
    · have c1 : wr.cell? ⟨b, off + j, none⟩ = some (.string (ss.getD j ByteArray.empty)) := ((bcell hB).1 b (off + j) hlt).trans (hc j _ (by simp [List.getD, List.getElem?_eq_getElem hjl]))
      have c2 : wr.cell? ⟨b', off' + j, none⟩ = some (.string (ss.getD j ByteArray.empty)) := ((bcell hB).1 b' (off' + j) hlt').trans (hc' j _ (by simp [List.getD, List.getElem?_eq_getElem hjl]))
      have l1 : b < wr.heap.size := by have := hB.size; omega
      have l2 : b' < wr.heap.size := by have := hB.size; omega
      clear hc hc'
      go_wp2_with fail
      refine wp_region_quiet_C (Stay wr) (by kernel_rfl) (by kernel_rfl) (stay_start _) ?_
      repeat (first
        | (refine wpQ_skip (by rfl) ?_; simp only [Act.put, List.setIfInBounds_toArray, List.set_cons_zero, List.set_cons_succ])
        | (refine wpQ_value (v := ?_) (by rfl) ?_ ?_; rotate_left; (intro w hw; go_simp; done); simp only [Act.put, List.setIfInBounds_toArray, List.set_cons_zero, List.set_cons_succ])
        | (refine wpQ_value (v := ?_) (by rfl) ?_ ?_; rotate_left; (intro w hw; go_simp; with_reducible rfl); simp only [Act.put, List.setIfInBounds_toArray, List.set_cons_zero, List.set_cons_succ])
        | (refine wpQ_call (f := ?_) (args := ?_) (v := ?_) (by rfl) ?_ ?_ ?_; rotate_left 3; (intro w hw; go_simp; first | with_reducible rfl | (constructor; with_reducible rfl; with_reducible rfl)); (intro w hw; first | fail); simp only [Act.put, List.setIfInBounds_toArray, List.set_cons_zero, List.set_cons_succ]))
      refine wpQuiet_nil ?_
      intro w1 hS1
      go_wp2
      go_roundw
      case rel => exact ⟨j + 1, by omega, by go_num, hB.trans (hS1.1.mono (by have := hB.size; omega))⟩
      case measure => simp [intOf]; omega
    · clear hc hc'
      go_wp2
      go_ret
      exact ⟨rfl, hB⟩

theorem sameTexts_none (a a' : Option Addr) (cap cap' : Nat) (w : World) :
    Calls Try.prog 29 #[.slice a 0 cap, .slice a' 0 cap'] w fun e w' => e = .returned (.bool true) ∧ Below w.heap.size w w' := by
  go_enter Try.func29, Try.ntmps29
  go_wp2
  go_loop [13] (fun i => i = .int .i64 0) (fun i => 0)
  case atStart => rfl
  case round =>
    subst hrel
    go_wp2
    go_ret
    exact ⟨rfl, Below.refl _ _⟩
theorem sameTexts_comm {w : World} {v v' : Value} {ss : List ByteArray} (h : Comm w v ss) (h' : Comm w v' ss) (hm : (ss.length : Int) ≤ 9223372036854775807) :
    Calls Try.prog 29 #[v, v'] w fun e w' => e = .returned (.bool true) ∧ Below w.heap.size w w' := by
  rcases h with ⟨rfl, a, cap, rfl⟩ | ⟨h0, b, off, cap, rfl, hlt, hc⟩
  · rcases h' with ⟨_, a', cap', rfl⟩ | ⟨h0, _⟩
    · exact sameTexts_none a a' cap cap' w
    · simp at h0
  · rcases h' with ⟨e, _⟩ | ⟨_, b', off', cap', rfl, hlt', hc'⟩
    · subst e; simp at h0
    · exact sameTexts_row ss b off cap b' off' cap' w hm hlt hlt' hc hc'

/-- Equal pieces are the same. -/
theorem samePiece_comm {w : World} {v v' : Value} {ss : List ByteArray} (k bl ind : Int) (h : Comm w v ss) (h' : Comm w v' ss) (hm : (ss.length : Int) ≤ 9223372036854775807) :
    Calls Try.prog 16 #[.agg #[.int .i64 k, .int .i64 bl, .int .i64 ind, v], .agg #[.int .i64 k, .int .i64 bl, .int .i64 ind, v']] w fun e w' => e = .returned (.bool true) ∧ Below w.heap.size w w' := by
  obtain ⟨a, cap, rfl⟩ := h.form
  obtain ⟨a', cap', rfl⟩ := h'.form
  have hB := below_alloc2 w (.cells #[.int .i64 k, .int .i64 bl, .int .i64 ind, .slice a ss.length cap] 31) (.cells #[.int .i64 k, .int .i64 bl, .int .i64 ind, .slice a' ss.length cap'] 31)
  have h1 := h.below hB
  have h2 := h'.below hB
  have e1 : (k == k) = true := by simp
  have e2 : (bl == bl) = true := by simp
  have e3 : (ind == ind) = true := by simp
  go_enter Try.func16, Try.ntmps16
  go_wp2_with fail
  go_at_call 29
  refine (sameTexts_comm h1 h2 hm).mono ?_
  rintro e w1 ⟨rfl, hb1⟩
  go_wp2
  go_ret
  exact ⟨rfl, hB.trans (hb1.mono (by simp; omega))⟩
end Go.Proofs.Ythlnciihabhmaaa
