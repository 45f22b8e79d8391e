/-
  Strings with escapes: the ways in which a fine text goes on; quotes in it. No program in it.
-/
import Derived.Test.YtceepfnjdkfjnaaFmtStrLaw
namespace Go.Proofs.YtceepfnjdkfjnaaFmt
open Go

theorem hexF_le {b : UInt8} (h : 0 ≤ hexF b) : b.toNat < 128 ∧ hexF b ≤ 15 := by
  unfold hexF at *
  repeat' split at h
  all_goals (try split) <;> (try split) <;> (try split) <;> omega
theorem four_parts {t : List UInt8} (h : 0 ≤ fourF t) : ∃ a b c d u, t = a :: b :: c :: d :: u ∧ 0 ≤ hexF a ∧ 0 ≤ hexF b ∧ 0 ≤ hexF c ∧ 0 ≤ hexF d ∧ fourF t = ((hexF a * 16 + hexF b) * 16 + hexF c) * 16 + hexF d := by
  match t, h with
  | a :: b :: c :: d :: u, h =>
    by_cases hn : hexF a < 0 ∨ hexF b < 0 ∨ hexF c < 0 ∨ hexF d < 0
    · simp only [fourF, if_pos hn] at h; omega
    · refine ⟨a, b, c, d, u, rfl, by omega, by omega, by omega, by omega, by simp only [fourF, if_neg hn]⟩
  | [], h => simp [fourF] at h
  | [_], h => simp [fourF] at h
  | [_, _], h => simp [fourF] at h
  | [_, _, _], h => simp [fourF] at h
theorem four_range {t : List UInt8} (h : 0 ≤ fourF t) : fourF t ≤ 65535 := by
  obtain ⟨a, b, c, d, u, _, h1, h2, h3, h4, e⟩ := four_parts h
  have := (hexF_le h1).2; have := (hexF_le h2).2; have := (hexF_le h3).2; have := (hexF_le h4).2
  omega
theorem four_val {t : List UInt8} (h : 0 ≤ fourF t) (hv : Val t) : Val (t.drop 4) := by
  obtain ⟨a, b, c, d, u, rfl, h1, h2, h3, h4, e⟩ := four_parts h
  exact (((hv.tail (hexF_le h1).1).tail (hexF_le h2).1).tail (hexF_le h3).1).tail (hexF_le h4).1
theorem esc_ascii {e : UInt8} (h : escF e ≠ []) : e.toNat < 128 := by
  unfold escF at h
  by_cases h1 : e = 34 ∨ e = 39 ∨ e = 92 ∨ e = 47
  · rcases h1 with rfl | rfl | rfl | rfl <;> decide
  rw [if_neg h1] at h
  by_cases h2 : e = 98
  · subst h2; decide
  rw [if_neg h2] at h
  by_cases h3 : e = 102
  · subst h3; decide
  rw [if_neg h3] at h
  by_cases h4 : e = 110
  · subst h4; decide
  rw [if_neg h4] at h
  by_cases h5 : e = 114
  · subst h5; decide
  rw [if_neg h5] at h
  by_cases h6 : e = 116
  · subst h6; decide
  rw [if_neg h6] at h
  exact absurd rfl h
theorem esc_val {e : UInt8} : Val (escF e) := by
  unfold escF
  split
  · rename_i h
    rcases h with rfl | rfl | rfl | rfl <;> exact val_list _ (by decide)
  · repeat' split
    all_goals exact val_list _ (by decide)
/-- How a fine text goes on. -/
theorem unL_cases {l : List UInt8} (hv : Val l) (hl : l ≠ []) (hf : (unL l).1 = 1) :
    (∃ r t, r ≠ 92 ∧ Sc r ∧ Val t ∧ l = enc r ++ t ∧ unL l = ((unL t).1, enc r ++ (unL t).2)) ∨
    (∃ e t, e.toNat < 128 ∧ escF e ≠ [] ∧ Val t ∧ l = 92 :: e :: t ∧ unL l = ((unL t).1, escF e ++ (unL t).2)) ∨
    (∃ t, 0 ≤ fourF t ∧ ¬ (55296 ≤ fourF t ∧ fourF t < 57344) ∧ Val (t.drop 4) ∧ l = 92 :: 117 :: t ∧ unL l = ((unL (t.drop 4)).1, enc (fourF t).toNat ++ (unL (t.drop 4)).2)) ∨
    (∃ t u, 55296 ≤ fourF t ∧ fourF t < 56320 ∧ t.drop 4 = 92 :: 117 :: u ∧ 56320 ≤ fourF u ∧ fourF u < 57344 ∧ Val (u.drop 4) ∧ l = 92 :: 117 :: t ∧
      unL l = ((unL (u.drop 4)).1, enc (65536 + (fourF t - 55296) * 1024 + fourF u - 56320).toNat ++ (unL (u.drop 4)).2)) := by
  obtain ⟨r, t, hs, ht, rfl⟩ := hv.cases hl
  by_cases h92 : r = 92
  · subst h92
    rw [show enc 92 ++ t = 92 :: t by rw [enc_ascii (by decide)]; rfl] at *
    have hst := unL_step hl
    cases t with
    | nil => rw [hst] at hf; simp [stepU] at hf
    | cons e t =>
      by_cases he : escF e ≠ []
      · exact .inr (.inl ⟨e, t, esc_ascii he, he, ht.tail (esc_ascii he), rfl, unL_esc he⟩)
      · by_cases hu : e = 117
        · subst hu
          have htv := ht.tail (by decide)
          by_cases h4 : fourF t < 0
          · rw [hst] at hf
            have : stepU (92 :: 117 :: t) = (2, [], 1) := by
              simp only [stepU]
              rw [if_neg (by simp), if_neg he, if_neg (by simp), if_pos h4]
            rw [this] at hf
            simp at hf
          · by_cases hsr : 55296 ≤ fourF t ∧ fourF t < 57344
            · by_cases hlo : lowF (fourF t) (t.drop 4) < 56320 ∨ 57344 ≤ lowF (fourF t) (t.drop 4)
              · rw [hst] at hf
                have : stepU (92 :: 117 :: t) = (0, [], 1) := by
                  simp only [stepU]
                  rw [if_neg (by simp), if_neg he, if_neg (by simp), if_neg h4, if_pos hsr, if_pos hlo]
                rw [this] at hf
                simp at hf
              · have hl2 : ∃ u, t.drop 4 = 92 :: 117 :: u ∧ fourF t < 56320 ∧ lowF (fourF t) (t.drop 4) = fourF u := by
                  cases hd : t.drop 4 with
                  | nil => rw [hd] at hlo; simp [lowF] at hlo
                  | cons a x =>
                    cases x with
                    | nil => rw [hd] at hlo; simp [lowF] at hlo
                    | cons b u =>
                      rw [hd] at hlo
                      by_cases hc : fourF t < 56320 ∧ a = 92 ∧ b = 117
                      · obtain ⟨h1, rfl, rfl⟩ := hc
                        exact ⟨u, rfl, h1, by simp [lowF, h1]⟩
                      · simp only [lowF, if_neg hc] at hlo
                        omega
                obtain ⟨u, hd, hlt, hlow⟩ := hl2
                rw [hlow] at hlo
                have hvu : Val u := by
                  have := four_val (by omega) htv
                  rw [hd] at this
                  exact (this.tail (by decide)).tail (by decide)
                refine .inr (.inr (.inr ⟨t, u, hsr.1, hlt, hd, by omega, by omega, four_val (by omega) hvu, rfl, ?_⟩))
                have hst2 : stepU (92 :: 117 :: t) = (1, enc (65536 + (fourF t - 55296) * 1024 + fourF u - 56320).toNat, 12) := by
                  simp only [stepU]
                  rw [if_neg (by simp), if_neg he, if_neg (by simp), if_neg h4, if_pos hsr, hlow, if_neg hlo]
                rw [hst, hst2]
                have hdd : (92 :: 117 :: t).drop 12 = u.drop 4 := by
                  have : t.drop 10 = (t.drop 4).drop 6 := by rw [List.drop_drop]
                  rw [List.drop_succ_cons, List.drop_succ_cons, this, hd]
                  rfl
                simp only [hdd]
                simp
            · exact .inr (.inr (.inl ⟨t, by omega, hsr, four_val (by omega) htv, rfl, unL_four (by omega) hsr⟩))
        · rw [hst] at hf
          have : stepU (92 :: e :: t) = (2, [], 1) := by
            simp only [stepU]
            rw [if_neg (by simp), if_neg he, if_pos hu]
          rw [this] at hf
          simp at hf
  · refine .inl ⟨r, t, h92, hs, ht, rfl, unL_chunk fun b hb => ?_⟩
    by_cases hr : r < 128
    · rw [enc_ascii hr] at hb
      simp at hb
      intro e
      rw [e] at hb
      have := congrArg UInt8.toNat hb
      simp at this
      omega
    · exact high_ne (by omega) (by decide) b hb
theorem unL_val : ∀ (n : Nat) {l : List UInt8}, l.length ≤ n → Val l → (unL l).1 = 1 → Val (unL l).2 := by
  intro n
  induction n with
  | zero => intro l h _ _; rw [List.eq_nil_of_length_eq_zero (by omega : l.length = 0)]; exact Val.nil
  | succ n ih =>
    intro l h hv hf
    by_cases hl : l = []
    · subst hl; exact Val.nil
    rcases unL_cases hv hl hf with ⟨r, t, _, hs, ht, rfl, e⟩ | ⟨x, t, _, hx, ht, rfl, e⟩ | ⟨t, h0, hsr, ht, rfl, e⟩ | ⟨t, u, h1, h2, hd, h3, h4, ht, rfl, e⟩
    · rw [e] at hf ⊢
      have := List.length_pos_iff.2 (enc_ne r)
      rw [List.length_append] at h
      exact Val.cons hs (ih (by omega) ht hf)
    · rw [e] at hf ⊢
      simp at h
      exact esc_val.append (ih (by omega) ht hf)
    · rw [e] at hf ⊢
      simp at h
      have := four_range h0
      exact Val.cons ⟨by omega, by omega⟩ (ih (by rw [List.length_drop]; omega) ht hf)
    · rw [e] at hf ⊢
      have := congrArg List.length hd
      simp at this h
      exact Val.cons ⟨by omega, by omega⟩ (ih (by rw [List.length_drop]; omega) ht hf)

/-! ### Quotes -/
def bareF (q : UInt8) : List UInt8 → Bool
  | [] => false
  | [b] => b != 92 && b == q
  | b :: c :: t => if b = 92 then bareF q t else if b = q then true else bareF q (c :: t)
def behindF (q : UInt8) : List UInt8 → Bool
  | [] => false
  | [_] => false
  | b :: c :: t => if b = 92 then (if c = q then true else behindF q t) else behindF q (c :: t)
theorem bare_plain {q b : UInt8} (t : List UInt8) (h1 : b ≠ 92) (h2 : b ≠ q) : bareF q (b :: t) = bareF q t := by
  cases t with
  | nil => simp [bareF, h2]
  | cons c t => simp [bareF, h1, h2]
theorem behind_plain {q b : UInt8} (t : List UInt8) (h1 : b ≠ 92) : behindF q (b :: t) = behindF q t := by
  cases t with
  | nil => rfl
  | cons c t => simp [behindF, h1]
theorem bare_chunk {q : UInt8} : ∀ {c t : List UInt8}, (∀ b ∈ c, b ≠ 92 ∧ b ≠ q) → bareF q (c ++ t) = bareF q t
  | [], t, _ => rfl
  | b :: c, t, h => by rw [List.cons_append, bare_plain _ (h b (by simp)).1 (h b (by simp)).2, bare_chunk fun x hx => h x (by simp [hx])]
theorem behind_chunk {q : UInt8} : ∀ {c t : List UInt8}, (∀ b ∈ c, b ≠ 92) → behindF q (c ++ t) = behindF q t
  | [], t, _ => rfl
  | b :: c, t, h => by rw [List.cons_append, behind_plain _ (h b (by simp)), behind_chunk fun x hx => h x (by simp [hx])]
theorem bare_esc {q e : UInt8} (t : List UInt8) : bareF q (92 :: e :: t) = bareF q t := by simp [bareF]
theorem behind_esc {q e : UInt8} (t : List UInt8) (h : e ≠ q) : behindF q (92 :: e :: t) = behindF q t := by simp [behindF, h]
theorem enc_not {r : Nat} {c : UInt8} (hc : c.toNat < 128) (h : r ≠ c.toNat) : ∀ b ∈ enc r, b ≠ c := by
  intro b hb
  by_cases hr : r < 128
  · rw [enc_ascii hr] at hb
    simp at hb
    intro e
    rw [e] at hb
    have := congrArg UInt8.toNat hb
    simp at this
    omega
  · exact high_ne (by omega) hc b hb
/-- The quote of a kind of strings. -/
def quoteF (single : Bool) : UInt8 := if single then 39 else 34
theorem bare_escB (single : Bool) {r : Nat} (t : List UInt8) : bareF (quoteF single) (escB single r ++ t) = bareF (quoteF single) t := by
  unfold escB
  by_cases h34 : r = 34
  · subst h34
    cases single
    · exact bare_esc _
    · exact bare_plain _ (by decide) (by decide)
  by_cases h39 : r = 39
  · subst h39
    cases single
    · exact bare_plain _ (by decide) (by decide)
    · exact bare_esc _
  rw [if_neg h34, if_neg h39]
  by_cases h92 : r = 92
  · subst h92; exact bare_esc _
  by_cases h8 : r = 8
  · subst h8; exact bare_esc _
  by_cases h12 : r = 12
  · subst h12; exact bare_esc _
  by_cases h10 : r = 10
  · subst h10; exact bare_esc _
  by_cases h13 : r = 13
  · subst h13; exact bare_esc _
  by_cases h9 : r = 9
  · subst h9; exact bare_esc _
  rw [if_neg h92, if_neg h8, if_neg h12, if_neg h10, if_neg h13, if_neg h9]
  split
  · rename_i h
    rw [List.cons_append, List.cons_append, bare_esc]
    refine bare_chunk fun b hb => ?_
    have := hex4_ascii r (by omega) b hb
    refine ⟨this.2.1, ?_⟩
    cases single
    · exact this.2.2.1
    · exact this.2.2.2
  · refine bare_chunk fun b hb => ⟨enc_not (by decide) (by simpa using h92) b hb, ?_⟩
    cases single
    · exact enc_not (by decide) h34 b hb
    · exact enc_not (by decide) h39 b hb
theorem behind_escB (single : Bool) {r : Nat} (t : List UInt8) : behindF (quoteF (!single)) (escB single r ++ t) = behindF (quoteF (!single)) t := by
  unfold escB
  by_cases h34 : r = 34
  · subst h34
    cases single
    · exact behind_esc _ (by decide)
    · exact behind_plain _ (by decide)
  by_cases h39 : r = 39
  · subst h39
    cases single
    · exact behind_plain _ (by decide)
    · exact behind_esc _ (by decide)
  rw [if_neg h34, if_neg h39]
  by_cases h92 : r = 92
  · subst h92; cases single <;> exact behind_esc _ (by decide)
  by_cases h8 : r = 8
  · subst h8; cases single <;> exact behind_esc _ (by decide)
  by_cases h12 : r = 12
  · subst h12; cases single <;> exact behind_esc _ (by decide)
  by_cases h10 : r = 10
  · subst h10; cases single <;> exact behind_esc _ (by decide)
  by_cases h13 : r = 13
  · subst h13; cases single <;> exact behind_esc _ (by decide)
  by_cases h9 : r = 9
  · subst h9; cases single <;> exact behind_esc _ (by decide)
  rw [if_neg h92, if_neg h8, if_neg h12, if_neg h10, if_neg h13, if_neg h9]
  split
  · rename_i h
    rw [List.cons_append, List.cons_append, behind_esc _ (by cases single <;> decide)]
    exact behind_chunk fun b hb => (hex4_ascii r (by omega) b hb).2.1
  · exact behind_chunk fun b hb => enc_not (by decide) (by simpa using h92) b hb
theorem bare_escL (single : Bool) : ∀ (cs : List Nat), bareF (quoteF single) (escL single cs) = false
  | [] => by cases single <;> rfl
  | r :: cs => by rw [show escL single (r :: cs) = escB single r ++ escL single cs by simp [escL], bare_escB, bare_escL single cs]
theorem behind_escL (single : Bool) : ∀ (cs : List Nat), behindF (quoteF (!single)) (escL single cs) = false
  | [] => by cases single <;> rfl
  | r :: cs => by rw [show escL single (r :: cs) = escB single r ++ escL single cs by simp [escL], behind_escB, behind_escL single cs]
/-- A byte stands in a text where the character does. -/
theorem mem_flat {c : UInt8} (hc : c.toNat < 128) (cs : List Nat) : c ∈ cs.flatMap enc ↔ c.toNat ∈ cs := by
  rw [List.mem_flatMap]
  constructor
  · rintro ⟨r, hr, hb⟩
    by_cases e : r = c.toNat
    · rwa [← e]
    · exact absurd rfl (enc_not hc e c hb)
  · intro h
    refine ⟨_, h, ?_⟩
    rw [enc_ascii hc]
    simp
end Go.Proofs.YtceepfnjdkfjnaaFmt
