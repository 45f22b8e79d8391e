/-
  What appended and joined pieces are: plain words on lists. No function is walked.
-/
import Derived.Test.YthlnciihabhmaaaFmtImpl
namespace Go.Proofs.YthlnciihabhmaaaFmt

theorem cleanB_append (xs ys : List Pc) : cleanB (xs ++ ys) = if ys = [] then cleanB xs else cleanB ys := by
  split
  · next h => rw [h, List.append_nil]
  · next h =>
    rcases nil_or_snoc ys with rfl | ⟨q, x, rfl⟩
    · exact absurd rfl h
    · rw [← List.append_assoc, cleanB_snoc, cleanB_snoc]
theorem kept_append {xs r : List Pc} (h : KeptP xs) (hr : ∀ i p, r[i]? = some p → p.k = 0 → cleanB (xs ++ r.take i) = false) : KeptP (xs ++ r) := fun i p hp h0 => by
  rcases Nat.lt_or_ge i xs.length with hlt | hge
  · rw [List.getElem?_append_left hlt] at hp
    rw [List.take_append_of_le_length (by omega)]
    exact h i p hp h0
  · rw [List.getElem?_append_right hge] at hp
    rw [List.take_append, List.take_of_length_le hge]
    exact hr _ p hp h0
theorem kept_left {xs r : List Pc} (h : KeptP (xs ++ r)) : KeptP xs := fun i p hp h0 => by
  have hlt : i < xs.length := (List.getElem?_eq_some_iff.1 hp).1
  have := h i p (by rw [List.getElem?_append_left hlt]; exact hp) h0
  rwa [List.take_append_of_le_length (by omega)] at this
theorem kept_snoc {xs : List Pc} {p : Pc} (h : KeptP xs) (hp : p.k = 0 → cleanB xs = false) : KeptP (xs ++ [p]) := kept_append h fun i q hq h0 => by
  cases i with
  | zero =>
    obtain rfl : p = q := by simpa using hq
    simpa using hp h0
  | succ i => simp at hq
theorem lastPlus_snoc (qs : List Pc) (q p : Pc) : lastPlus (qs ++ [q]) p = qs ++ [{ q with ind := p.ind, bl := q.bl + p.bl }] := by simp [lastPlus]

theorem appendP_kept {ps : List Pc} {p : Pc} (h : KeptP ps) : KeptP (appendP ps p) := by
  unfold appendP
  split
  · next hc =>
    split
    · exact kept_snoc h fun h => by simp at h
    · rcases nil_or_snoc ps with rfl | ⟨qs, q, rfl⟩
      · simp [cleanB] at hc
      · rw [lastPlus_snoc]
        exact kept_snoc (kept_left h) fun h0 => by
          have := h qs.length q (by simp) h0
          simpa using this
  · next hc =>
    split
    · next h2 =>
      exact kept_snoc (kept_snoc h fun _ => h2.1) fun h => by rw [h2.2] at h; simp at h
    · exact kept_snoc h fun h0 => by
        cases e : cleanB ps
        · rfl
        · exact absurd ⟨e, h0⟩ hc
theorem comms_append (xs ys : List Pc) : comms (xs ++ ys) = comms xs ++ comms ys := by simp [comms]
theorem comms_one (p : Pc) : comms [p] = p.ss := by simp [comms]
theorem appendP_comms (ps : List Pc) (p : Pc) : comms (appendP ps p) = comms ps ++ p.ss := by
  unfold appendP
  split
  · next hc =>
    split
    · rw [comms_append, comms_one]
    · next h0 =>
      have e : p.ss = [] := List.eq_nil_of_length_eq_zero (by omega)
      rcases nil_or_snoc ps with rfl | ⟨qs, q, rfl⟩
      · simp [cleanB] at hc
      · rw [lastPlus_snoc, comms_append, comms_append, comms_one, comms_one, e, List.append_nil]
  · split
    · rw [comms_append, comms_append, comms_one, comms_one, List.append_nil]
    · rw [comms_append, comms_one]
theorem appendP_pos (ps : List Pc) (p : Pc) : 0 < (appendP ps p).length := by
  unfold appendP
  split
  · next hc =>
    split
    · simp
    · rcases nil_or_snoc ps with rfl | ⟨qs, q, rfl⟩
      · simp [cleanB] at hc
      · rw [lastPlus_snoc]; simp
  · split <;> simp
theorem appendP_last {ps : List Pc} {p : Pc} (h1 : p.k = 1) : appendP ps p = ps ++ [p] := by
  unfold appendP
  rw [if_neg (by omega), if_neg (by omega)]

theorem joinP_cons {ps : List Pc} (hne : ps ≠ []) (q : Pc) (r : List Pc) : joinP ps (q :: r) = appendP ps q ++ r := by
  cases ps with
  | nil => exact absurd rfl hne
  | cons _ _ => rfl
theorem joinP_nil (ps : List Pc) : joinP ps [] = ps := by cases ps <;> rfl
theorem joinP_kept {ps qs : List Pc} (h : KeptP ps) (h' : KeptP qs) : KeptP (joinP ps qs) := by
  by_cases hne : ps = []
  · subst hne
    simpa [joinP] using h'
  cases qs with
  | nil => rw [joinP_nil]; exact h
  | cons q r =>
    rw [joinP_cons hne]
    refine kept_append (appendP_kept h) fun i p hp h0 => ?_
    have hk := h' (i + 1) p (by simpa using hp) h0
    rw [cleanB_append]
    split
    · next e =>
      have e1 : i = 0 := by
        rcases Nat.eq_zero_or_pos i with h | h
        · exact h
        · have hl : i < r.length := (List.getElem?_eq_some_iff.1 hp).1
          have := congrArg List.length e
          rw [List.length_take, List.length_nil, Nat.min_eq_left (by omega)] at this
          omega
      subst e1
      have hq : q.k = 1 := by
        have : (q.k != 1) = false := by simpa [cleanB] using hk
        simpa using this
      rw [appendP_last hq, cleanB_snoc]
      simp [hq]
    · next e =>
      have hk' : cleanB ([q] ++ r.take i) = false := by simpa using hk
      rwa [cleanB_append, if_neg e] at hk'
theorem joinP_comms (ps qs : List Pc) : comms (joinP ps qs) = comms ps ++ comms qs := by
  by_cases hne : ps = []
  · subst hne
    simp [joinP, comms]
  cases qs with
  | nil => rw [joinP_nil]; simp [comms]
  | cons q r => rw [joinP_cons hne, comms_append, appendP_comms, List.append_assoc]; rfl
theorem joinP_pos {ps qs : List Pc} (h : 0 < ps.length + qs.length) : 0 < (joinP ps qs).length := by
  by_cases hne : ps = []
  · subst hne
    simpa [joinP] using h
  cases qs with
  | nil => rw [joinP_nil]; simpa using h
  | cons q r =>
    rw [joinP_cons hne]
    have := appendP_pos ps q
    simp
    omega

theorem endP_clean (ps : List Pc) : cleanB (endP ps) = true := by
  unfold endP
  split
  · assumption
  · rw [cleanB_snoc]; rfl
theorem endP_comms (ps : List Pc) : comms (endP ps) = comms ps := by
  unfold endP
  split
  · rfl
  · rw [comms_append, comms_one, List.append_nil]
theorem endP_same {ps : List Pc} (h : cleanB ps = true) : endP ps = ps := by simp [endP, h]

/-- All comments are no longer than so many lines. -/
def Short (m : Nat) (ps : List Pc) : Prop := ∀ p ∈ ps, p.ss.length ≤ m
theorem Short.append {m : Nat} {xs ys : List Pc} (h : Short m xs) (h' : Short m ys) : Short m (xs ++ ys) := fun p hp => by
  rcases List.mem_append.1 hp with hp | hp
  · exact h p hp
  · exact h' p hp
theorem Short.one {m : Nat} {p : Pc} (h : p.ss.length ≤ m) : Short m [p] := fun q hq => by
  obtain rfl : q = p := by simpa using hq
  exact h
theorem Short.left {m : Nat} {xs ys : List Pc} (h : Short m (xs ++ ys)) : Short m xs := fun p hp => h p (by simp [hp])
theorem Short.right {m : Nat} {xs ys : List Pc} (h : Short m (xs ++ ys)) : Short m ys := fun p hp => h p (by simp [hp])
theorem Short.int {m : Nat} {ps : List Pc} (h : Short m ps) (hm : (m : Int) ≤ 9223372036854775807) : ∀ p ∈ ps, (p.ss.length : Int) ≤ 9223372036854775807 := fun p hp => by
  have := h p hp
  omega
theorem Short.appendP {m : Nat} {ps : List Pc} {p : Pc} (h : Short m ps) (hp : p.ss.length ≤ m) : Short m (appendP ps p) := by
  unfold Proofs.YthlnciihabhmaaaFmt.appendP
  split
  · next hc =>
    split
    · exact h.append (.one hp)
    · rcases nil_or_snoc ps with rfl | ⟨qs, q, rfl⟩
      · simp [cleanB] at hc
      · rw [lastPlus_snoc]
        exact h.left.append (.one (h q (by simp)))
  · split
    · exact (h.append (.one (Nat.zero_le _))).append (.one hp)
    · exact h.append (.one hp)
theorem Short.joinP {m : Nat} {ps qs : List Pc} (h : Short m ps) (h' : Short m qs) : Short m (joinP ps qs) := by
  by_cases hne : ps = []
  · subst hne
    simpa [Proofs.YthlnciihabhmaaaFmt.joinP] using h'
  cases qs with
  | nil => rw [joinP_nil]; exact h
  | cons q r =>
    rw [joinP_cons hne]
    exact (h.appendP (h' q (by simp))).append fun p hp => h' p (by simp [hp])
theorem Short.endP {m : Nat} {ps : List Pc} (h : Short m ps) : Short m (endP ps) := by
  unfold Proofs.YthlnciihabhmaaaFmt.endP
  split
  · exact h
  · exact h.append (.one (Nat.zero_le _))

/-- What good pieces are. -/
structure GoodF (ps : List Pc) : Prop where
  len : (ps.length : Int) ≤ 24
  kind : ∀ p ∈ ps, p.k = 0 ∨ p.k = 1 ∨ p.k = 2
  bl : ∀ p ∈ ps, 0 ≤ p.bl ∧ p.bl ≤ 1000000
  short : Short 12 ps
  kept : KeptP ps
theorem sound_kind {p : Pc} (h : p.Sound) : p.k = 0 ∨ p.k = 1 ∨ p.k = 2 := by
  obtain ⟨_, _, _, _, h⟩ := h
  rcases h with h | h | h
  · exact .inl h.1
  · exact .inr (.inl h.1)
  · exact .inr (.inr h.1)
theorem sound_bl {p : Pc} (h : p.Sound) : 0 ≤ p.bl ∧ p.bl ≤ 1000000 := by
  obtain ⟨h, _⟩ := h
  exact ⟨h.1, by omega⟩
theorem good_facts {ps : List Pc} (h : GoodP ps) : GoodF ps :=
  ⟨by have := h.2.1; omega, fun p hp => sound_kind (h.1 p hp), fun p hp => sound_bl (h.1 p hp), fun p hp => (h.1 p hp).2.2.1, h.2.2⟩
theorem Short.le {m n : Nat} {ps : List Pc} (h : Short m ps) (hn : m ≤ n) : Short n ps := fun p hp => Nat.le_trans (h p hp) hn
end Go.Proofs.YthlnciihabhmaaaFmt
