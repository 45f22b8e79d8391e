/-
  spec.Styled: what it makes of a piece. Conditions: the comment's texts are short, and one that begins with / begins with //.
-/
import Derived.Test.YthlnciihabhmaaaStyle
namespace Go.Proofs.Ythlnciihabhmaaa
open Go.ChangeShapes Go.WideShapes Go.ChangeAt Go.RowKit Go.Joins

theorem beg_slash (s : ByteArray) : beg s [47, 47] = true ↔ At s 0 47 ∧ At s 1 47 := beg_two s 47 47 (by decide) (by decide)
theorem beg_hash (s : ByteArray) : beg s [35] = true ↔ At s 0 35 := beg_one s 35 (by decide)
theorem beg_bang (s : ByteArray) : beg s [35, 33] = true ↔ At s 0 35 ∧ At s 1 33 := beg_two s 35 33 (by decide) (by decide)
theorem not_beg {b : Bool} (h : b = false) : ¬ b = true := by simp [h]
theorem one_text {w : World} {b : Nat} {s : ByteArray} (h : w.cell? ⟨b, 0, none⟩ = some (.string s)) : TextsAt w b 0 [s] := fun i t hi => by
  match i, hi with
  | 0, hi =>
    obtain rfl : s = t := by simpa using hi
    exact h
theorem specStyled {w : World} {v : Value} {ss : List ByteArray} {m k bl ind : Int} (h : Comm w v ss) (hp : ∀ s ∈ ss, s.size ≤ 400 ∧ (At s 0 47 → At s 1 47)) :
    Calls Try.prog 20 #[.int .i64 m, .agg #[.int .i64 k, .int .i64 bl, .int .i64 ind, v]] w fun e w' => (∃ v' ss', e = .returned (.agg #[.int .i64 k, .int .i64 bl, .int .i64 ind, v']) ∧ Comm w' v' ss' ∧ StyL m k ss ss') ∧ Below w.heap.size w w' := by
  have HC := Lib.hid h
  by_cases hk : k = 1
  · subst hk
    obtain ⟨a, cap, rfl⟩ := h.form
    clear h
    go_enter Try.func20, Try.ntmps20
    go_wp2
    exact bodyPost_ret (v := .agg #[.int .i64 1, .int .i64 bl, .int .i64 ind, .slice a ss.length cap]) (by simp [results, Try.results20, go_sem]) rfl ⟨⟨_, ss, rfl, HC.out.below (below_alloc2 _ _ _), .inl ⟨.inl rfl, rfl⟩⟩, below_alloc2 _ _ _⟩
  have hk2 : (k == 1) = false := by simp [hk]
  have hk3 : (k != 1) = true := by simp [hk]
  by_cases hn : ss.length = 1
  · rcases h with ⟨rfl, _⟩ | ⟨h0, b, off, cap, rfl, hlt, hT⟩
    · simp at hn
    obtain ⟨s, rfl⟩ : ∃ s, ss = [s] := by
      match ss, hn with
      | [s], _ => exact ⟨s, rfl⟩
    obtain ⟨p1, p2⟩ := hp s (by simp)
    have hz : (s.size : Int) ≤ 400 := by omega
    have HP := Lib.hid p2
    have c0 : w.cell? ⟨b, off, none⟩ = some (.string s) := hT 0 s rfl
    clear hp p2 hT
    simp only [List.length_singleton] at HC h0
    clear h0 hn
    by_cases m0 : m = 0
    · subst m0
      obtain ⟨r, hr⟩ : ∃ r, beg s [47, 47] = r := ⟨_, rfl⟩
      have HR := Lib.hid hr; clear hr
      go_enter Try.func20, Try.ntmps20
      go_wp2_with fail
      refine (begins_is (t := ⟨#[47, 47]⟩) hz (by decide) HR.out).mono ?_
      rintro e w' ⟨rfl, rfl⟩
      cases r
      · go_wp2
        exact bodyPost_ret (v := .agg #[.int .i64 k, .int .i64 bl, .int .i64 ind, .slice (some ⟨b, off, none⟩) 1 cap]) (by simp [results, Try.results20, go_sem]) rfl ⟨⟨_, [s], rfl, HC.out.below (below_alloc2 _ _ _), .inr ⟨hk, s, s, rfl, rfl, .inr (.inr ⟨fun h => not_beg HR.out ((beg_slash s).2 ⟨h.2, HP.out h.2⟩), fun h => by omega, rfl⟩)⟩⟩, below_alloc2 _ _ _⟩
      · have hz2 : (2 : Int) ≤ s.size := by
          obtain ⟨_, h, _⟩ := (beg_slash s).1 HR.out
          omega
        go_wp2
        exact bodyPost_ret (v := .agg #[.int .i64 k, .int .i64 bl, .int .i64 ind, .slice (some ⟨w.heap.size + 1 + 1, 0, none⟩) 1 1]) (by simp [results, Try.results20, go_sem]) rfl ⟨⟨_, [_], rfl, .inr ⟨by simp, w.heap.size + 1 + 1, 0, 1, rfl, by simp, one_text (by go_simp)⟩, .inr ⟨hk, s, _, rfl, rfl, .inl ⟨rfl, ((beg_slash s).1 HR.out).1, rfl⟩⟩⟩, below_alloc3 _ _ _ _⟩
    by_cases m1 : m = 1
    · subst m1
      obtain ⟨r, hr⟩ : ∃ r, beg s [35] = r := ⟨_, rfl⟩
      have HR := Lib.hid hr; clear hr
      obtain ⟨q, hq⟩ : ∃ q, beg s [35, 33] = q := ⟨_, rfl⟩
      have HQ := Lib.hid hq; clear hq
      go_enter Try.func20, Try.ntmps20
      go_wp2_with fail
      refine (begins_is (t := ⟨#[35]⟩) hz (by decide) HR.out).mono ?_
      rintro e w' ⟨rfl, rfl⟩
      cases r
      · go_wp2
        exact bodyPost_ret (v := .agg #[.int .i64 k, .int .i64 bl, .int .i64 ind, .slice (some ⟨b, off, none⟩) 1 cap]) (by simp [results, Try.results20, go_sem]) rfl ⟨⟨_, [s], rfl, HC.out.below (below_alloc2 _ _ _), .inr ⟨hk, s, s, rfl, rfl, .inr (.inr ⟨fun h => by omega, fun h => not_beg HR.out ((beg_hash s).2 h.2.1), rfl⟩)⟩⟩, below_alloc2 _ _ _⟩
      · go_wp2_with fail
        refine (begins_is (t := ⟨#[35, 33]⟩) hz (by decide) HQ.out).mono ?_
        rintro e w' ⟨rfl, rfl⟩
        cases q
        · have hz1 : (1 : Int) ≤ s.size := by
            obtain ⟨h, _⟩ := (beg_hash s).1 HR.out
            omega
          go_wp2
          exact bodyPost_ret (v := .agg #[.int .i64 k, .int .i64 bl, .int .i64 ind, .slice (some ⟨w.heap.size + 1 + 1, 0, none⟩) 1 1]) (by simp [results, Try.results20, go_sem]) rfl ⟨⟨_, [_], rfl, .inr ⟨by simp, w.heap.size + 1 + 1, 0, 1, rfl, by simp, one_text (by go_simp)⟩, .inr ⟨hk, s, _, rfl, rfl, .inr (.inl ⟨rfl, (beg_hash s).1 HR.out, fun h => not_beg HQ.out ((beg_bang s).2 ⟨(beg_hash s).1 HR.out, h⟩), rfl⟩)⟩⟩, below_alloc3 _ _ _ _⟩
        · go_wp2
          exact bodyPost_ret (v := .agg #[.int .i64 k, .int .i64 bl, .int .i64 ind, .slice (some ⟨b, off, none⟩) 1 cap]) (by simp [results, Try.results20, go_sem]) rfl ⟨⟨_, [s], rfl, HC.out.below (below_alloc2 _ _ _), .inr ⟨hk, s, s, rfl, rfl, .inr (.inr ⟨fun h => by omega, fun h => h.2.2 ((beg_bang s).1 HQ.out).2, rfl⟩)⟩⟩, below_alloc2 _ _ _⟩
    · go_enter Try.func20, Try.ntmps20
      go_wp2
      exact bodyPost_ret (v := .agg #[.int .i64 k, .int .i64 bl, .int .i64 ind, .slice (some ⟨b, off, none⟩) 1 cap]) (by simp [results, Try.results20, go_sem]) rfl ⟨⟨_, [s], rfl, HC.out.below (below_alloc2 _ _ _), .inr ⟨hk, s, s, rfl, rfl, .inr (.inr ⟨fun h => by omega, fun h => by omega, rfl⟩)⟩⟩, below_alloc2 _ _ _⟩
  · obtain ⟨a, cap, rfl⟩ := h.form
    clear h
    have hn2 : ((ss.length : Int) == 1) = false := by simp; omega
    have hn3 : ((ss.length : Int) != 1) = true := by simp; omega
    go_enter Try.func20, Try.ntmps20
    go_wp2
    exact bodyPost_ret (v := .agg #[.int .i64 k, .int .i64 bl, .int .i64 ind, .slice a ss.length cap]) (by simp [results, Try.results20, go_sem]) rfl ⟨⟨_, ss, rfl, HC.out.below (below_alloc2 _ _ _), .inl ⟨.inr hn, rfl⟩⟩, below_alloc2 _ _ _⟩
end Go.Proofs.Ythlnciihabhmaaa
