/-
  spec.SamePieces, spec.Comments, spec.With, spec.Append, spec.Join over lists of pieces. Conditions: the lists' lengths.
-/
import Derived.Test.YthlnciihabhmaaaClean
namespace Go.Proofs.Ythlnciihabhmaaa
open Go.ChangeShapes Go.WideShapes Go.ChangeAt Go.RowKit Go.Joins

theorem samePieces_pcs {w : World} {v v' : Value} {ps : List Pc} (h : Pcs pV w v ps) (h' : Pcs pV w v' ps) (hm : (ps.length : Int) ≤ 2147483647) (hss : ∀ p ∈ ps, (p.ss.length : Int) ≤ 9223372036854775807) :
    Calls Try.prog 24 #[v, v'] w fun e w' => e = .returned (.bool true) ∧ Below w.heap.size w w' := by
  obtain ⟨a, cap, rfl⟩ := h.form
  obtain ⟨a', cap', rfl⟩ := h'.form
  have H := Lib.hid h; clear h
  have H' := Lib.hid h'; clear h'
  have HS := Lib.hid hss; clear hss
  go_enter Try.func24, Try.ntmps24
  go_wp2
  go_loopw [13] (fun i wr => ∃ j : Nat, j ≤ ps.length ∧ i = .int .i64 j ∧ Below w.heap.size w wr) (fun i _ => ps.length - (intOf i).toNat)
  case atStart => exact ⟨0, Nat.zero_le _, rfl, Below.refl _ _⟩
  case round =>
    obtain ⟨j, hj, rfl, hB⟩ := hrel
    by_cases hjl : j < ps.length
    · obtain ⟨p, hp⟩ : ∃ p, ps[j]? = some p := ⟨_, List.getElem?_eq_getElem hjl⟩
      obtain ⟨b, off, u, rfl, hlt, hu, c0, c1, c2, c3⟩ := (H.out.below hB).atP hp
      obtain ⟨b', off', u', rfl, hlt', hu', c0', c1', c2', c3'⟩ := (H'.out.below hB).atP hp
      have hs := HS.out p (List.mem_of_getElem? hp)
      clear hp
      obtain ⟨ua, ucap, rfl⟩ := hu.form
      obtain ⟨ua', ucap', rfl⟩ := hu'.form
      go_wp2_with fail
      refine wp_region_quiet_C (Stay wr) (by kernel_rfl) (by kernel_rfl) (stay_start _) ?_
      repeat (first
        | (refine wpQ_skip (by rfl) ?_; simp only [Act.put, List.setIfInBounds_toArray, List.set_cons_zero, List.set_cons_succ])
        | (refine wpQ_value (v := ?_) (by rfl) ?_ ?_; rotate_left; (intro w hw; go_simp; done); simp only [Act.put, List.setIfInBounds_toArray, List.set_cons_zero, List.set_cons_succ])
        | (refine wpQ_value (v := ?_) (by rfl) ?_ ?_; rotate_left; (intro w hw; go_simp; with_reducible rfl); simp only [Act.put, List.setIfInBounds_toArray, List.set_cons_zero, List.set_cons_succ])
        | (refine wpQ_call (f := ?_) (args := ?_) (v := ?_) (by rfl) ?_ ?_ ?_; rotate_left 3; (intro w hw; go_simp; first | with_reducible rfl | (constructor; with_reducible rfl; with_reducible rfl)); (intro w hw; first | (refine (samePiece_comm p.k p.bl p.ind (hu.below hw.1) (hu'.below hw.1) hs).mono ?_; rintro e w'' ⟨rfl, hbw⟩; constructor; with_reducible rfl; exact stay_step hw hbw)); simp only [Act.put, List.setIfInBounds_toArray, List.set_cons_zero, List.set_cons_succ]))
      refine wpQuiet_nil ?_
      intro w1 hS1
      have hB3 := hB.trans (hS1.1.mono hB.size)
      go_wp2
      go_roundw
      case rel => exact ⟨j + 1, by omega, by go_num, hB3⟩
      case measure => simp [intOf]; omega
    · have hje : j = ps.length := by omega
      subst hje
      go_wp2
      go_ret
      exact ⟨rfl, hB⟩

/-- The comments of the first pieces: no more than so many. -/
theorem comms_le {ps : List Pc} {m : Nat} (h : ∀ p ∈ ps, p.ss.length ≤ m) : (comms ps).length ≤ ps.length * m := by
  induction ps with
  | nil => simp [comms]
  | cons p ps ih =>
    have h1 := h p (by simp)
    have h2 := ih fun q hq => h q (by simp [hq])
    have e : comms (p :: ps) = p.ss ++ comms ps := rfl
    rw [e, List.length_append, List.length_cons, Nat.add_mul]
    omega
theorem comms_snoc (qs : List Pc) (p : Pc) : comms (qs ++ [p]) = comms qs ++ p.ss := by simp [comms]

/-- A list of texts that the call owns. -/
def OwnT (base : Nat) (w : World) (v : Value) (ss : List ByteArray) : Prop := w.ownsRow base 9 1 v ss.length (strV ss)
theorem OwnT.comm {base : Nat} {w : World} {v : Value} {ss : List ByteArray} (h : OwnT base w v ss) : Comm w v ss := by
  unfold OwnT at h
  rcases Nat.eq_zero_or_pos ss.length with h0 | h0
  · obtain rfl := List.eq_nil_of_length_eq_zero h0
    rcases h.2 with ⟨rfl, _⟩ | ⟨g, cap, cur, rfl, _⟩
    · exact .inl ⟨rfl, _, _, rfl⟩
    · exact .inl ⟨rfl, _, _, rfl⟩
  · obtain ⟨g, cap, rfl, _, hlt⟩ := h.form h0
    exact .inr ⟨h0, g, 0, cap, rfl, hlt, texts_own h⟩

theorem comments_pcs {w : World} {v : Value} {ps : List Pc} (h : Pcs pV w v ps) (hm : (ps.length : Int) ≤ 2147483647) (hss : ∀ p ∈ ps, p.ss.length ≤ 1000) (hmm : ps.length ≤ 1000) :
    Calls Try.prog 23 #[v] w fun e w' => (∃ v', e = .returned v' ∧ OwnT w.heap.size w' v' (comms ps)) ∧ Below w.heap.size w w' := by
  obtain ⟨a, cap, rfl⟩ := h.form
  have H := Lib.hid h; clear h
  have HS := Lib.hid hss; clear hss
  obtain ⟨i0, hi0, hz0, hs0, hb0⟩ := infoStr
  go_enter Try.func23, Try.ntmps23
  go_wp2
  go_loopw [3, 9] (fun v i wr => ∃ j : Nat, j ≤ ps.length ∧ i = .int .i64 j ∧ OwnT w.heap.size wr v (comms (ps.take j)) ∧ Below w.heap.size w wr) (fun _ i _ => ps.length - (intOf i).toNat)
  case atStart => exact ⟨0, Nat.zero_le _, rfl, ⟨rfl, .inr ⟨w.heap.size, 0, #[], rfl, Nat.le_refl _, heap_alloc_new w _, Nat.le_refl _, by unfold maxLen; omega, rfl, rfl⟩⟩, below_alloc1 _ _⟩
  case round =>
    obtain ⟨j, hj, rfl, hown, hB⟩ := hrel
    by_cases hjl : j < ps.length
    · obtain ⟨p, hp⟩ : ∃ p, ps[j]? = some p := ⟨_, List.getElem?_eq_getElem hjl⟩
      obtain ⟨b, off, u, rfl, hlt, hu, c0, c1, c2, c3⟩ := (H.out.below hB).atP hp
      have hs := HS.out p (List.mem_of_getElem? hp)
      have hcl : (comms (ps.take j)).length ≤ 1000000 := by
        have := comms_le (ps := ps.take j) (m := 1000) fun q hq => HS.out q (List.mem_of_mem_take hq)
        rw [List.length_take] at this
        have : (min j ps.length) * 1000 ≤ 1000 * 1000 := Nat.mul_le_mul_right _ (by omega)
        omega
      have HP := Lib.hid hp; clear hp
      have HU := Lib.hid (hu.below (below_alloc1 wr (.cells #[.int .i64 p.k, .int .i64 p.bl, .int .i64 p.ind, u] 31)))
      have HO := Lib.hid (ownsRow_below hown (below_alloc1 wr (.cells #[.int .i64 p.k, .int .i64 p.bl, .int .i64 p.ind, u] 31))); clear hown
      have hB2 := hB.trans ((below_alloc1 wr (.cells #[.int .i64 p.k, .int .i64 p.bl, .int .i64 p.ind, u] 31)).mono hB.size)
      clear hu
      rcases HU.out with ⟨hnil, ua, ucap, rfl⟩ | ⟨h0, b2, off2, ucap, rfl, hlt2, hT⟩
      · have HN := Lib.hid hnil; clear hnil
        go_wp2_with (at_builtin; refine wpList_append_zero rfl (.tmp 13) (.tmp 15) 27 rfl w.heap.size 9 i0 1 Try.underlying27 hi0 u3 _ _ rfl HO.out ua ucap rfl ?_)
        go_wp2
        go_roundw
        case rel => exact ⟨j + 1, by omega, by go_num, by rw [take_snoc HP.out, comms_snoc, HN.out, List.append_nil]; exact HO.out, hB2⟩
        case measure => simp [intOf]; omega
      · have HT := Lib.hid (texts_news hT); clear hT
        go_wp2_with (at_builtin; refine wpList_append_lies _ rfl (.tmp 13) (.tmp 15) 27 rfl w.heap.size 9 i0 (.string ByteArray.empty) 1 16 Try.underlying27 hi0 hz0 hs0 hb0 rfl (by omega) u3 (comms (ps.take j)).length (strV (comms (ps.take j))) rfl HO.out ⟨b2, off2, none⟩ p.ss.length ucap (strV p.ss) rfl (by simp) HT.out (by simp [Value.oneCell']) h0 (by unfold maxLen; omega) (by omega) hB2.size _ rfl ?_; intro g cap1 w3 hown1 hgrow1 hat1 hlt1)
        have hB4 := hB2.grown hgrow1 hB2.size (fun k hk => (HO.out.lt k hk).1)
        go_wp2
        go_roundw
        case rel => exact ⟨j + 1, by omega, by go_num, by rw [take_snoc HP.out, comms_snoc]; unfold OwnT strV; rw [List.length_append, List.map_append]; exact hown1, hB4⟩
        case measure => simp [intOf]; omega
    · have hje : j = ps.length := by omega
      subst hje
      go_wp2
      go_ret
      rw [List.take_length] at hown
      exact ⟨⟨_, rfl, hown⟩, hB⟩
end Go.Proofs.Ythlnciihabhmaaa
