/-
  Strings with escapes, in plain words: what is unescaped and escaped again says what it said. No program in it.
-/
import Derived.Lib.MapLaws
import Derived.Lib.RuneLoops
import Derived.Stop.FmtQuoteTie
import Derived.Laws.Cover4
import Derived.Laws.IdiomStrings
namespace Go.Proofs.YtceepfnjdkfjnaaFmt
open Go

abbrev enc (r : Nat) : List UInt8 := Lib.encodeRune (r : Int)
/-- A number that is a character's. -/
def Sc (r : Nat) : Prop := r ≤ 1114111 ∧ ¬ (55296 ≤ r ∧ r < 57344)
/-- A text of whole characters. -/
def Val (l : List UInt8) : Prop := ∃ cs : List Nat, (∀ r ∈ cs, Sc r) ∧ l = cs.flatMap enc

theorem enc_ascii {r : Nat} (h : r < 128) : enc r = [r.toUInt8] := by
  unfold enc Lib.encodeRune
  rw [Lib.encodeRuneZ_one (by omega) (by omega)]
  simp
theorem enc_high {r : Nat} (h : 128 ≤ r) : ∀ b ∈ enc r, 128 ≤ b.toNat := by
  intro b hb
  unfold enc Lib.encodeRune at hb
  obtain ⟨x, hx, rfl⟩ := List.mem_map.1 hb
  have hb2 := Lib.encodeRuneZ_byte _ x hx
  have : 128 ≤ x := by
    unfold Lib.encodeRuneZ at hx
    split at hx
    · omega
    · split at hx
      · simp at hx; omega
      · split at hx
        · simp at hx; omega
        · split at hx
          · simp at hx; omega
          · simp at hx; omega
  have h3 : x.toNat < 256 := by omega
  simp; omega
theorem enc_ne (r : Nat) : enc r ≠ [] := by
  intro h
  have := (Lib.encodeRuneZ_length (r : Int)).1
  have h2 : (enc r).length = (Lib.encodeRuneZ (r : Int)).length := by simp [enc, Lib.encodeRune]
  rw [h] at h2; simp at h2; omega
/-- A character of one byte is that byte. -/
theorem enc_head {r : Nat} {b : UInt8} {c : List UInt8} (h : enc r = b :: c) (hb : b.toNat < 128) : r = b.toNat ∧ c = [] := by
  by_cases hr : r < 128
  · rw [enc_ascii hr] at h
    injection h with h1 h2
    exact ⟨by rw [← h1]; simp; omega, h2.symm⟩
  · have := enc_high (by omega : 128 ≤ r) b (by rw [h]; simp)
    omega
theorem Val.nil : Val [] := ⟨[], by simp, rfl⟩
theorem Val.cons {r : Nat} {t : List UInt8} (h : Sc r) (ht : Val t) : Val (enc r ++ t) := by
  obtain ⟨cs, h1, rfl⟩ := ht
  exact ⟨r :: cs, by simpa using ⟨h, h1⟩, by simp⟩
theorem Val.append {s t : List UInt8} (hs : Val s) (ht : Val t) : Val (s ++ t) := by
  obtain ⟨cs, h1, rfl⟩ := hs
  obtain ⟨ds, h2, rfl⟩ := ht
  exact ⟨cs ++ ds, fun r hr => (List.mem_append.1 hr).elim (h1 r) (h2 r), by simp⟩
theorem Val.cases {l : List UInt8} (h : Val l) (hl : l ≠ []) : ∃ r t, Sc r ∧ Val t ∧ l = enc r ++ t := by
  obtain ⟨cs, h1, rfl⟩ := h
  cases cs with
  | nil => simp at hl
  | cons r cs => exact ⟨r, cs.flatMap enc, h1 r (by simp), ⟨cs, fun x hx => h1 x (by simp [hx]), rfl⟩, by simp⟩
theorem sc_ascii {r : Nat} (h : r < 128) : Sc r := ⟨by omega, by omega⟩
theorem Val.ascii {b : UInt8} {t : List UInt8} (hb : b.toNat < 128) (ht : Val t) : Val (b :: t) := by
  have := Val.cons (sc_ascii hb) ht
  rwa [enc_ascii hb, show b.toNat.toUInt8 = b by simp] at this
theorem Val.tail {b : UInt8} {t : List UInt8} (h : Val (b :: t)) (hb : b.toNat < 128) : Val t := by
  obtain ⟨r, t', _, ht, e⟩ := h.cases (by simp)
  cases hr : enc r with
  | nil => exact absurd hr (enc_ne r)
  | cons c cs =>
    rw [hr] at e
    injection e with e1 e2
    subst e1
    obtain ⟨_, rfl⟩ := enc_head hr hb
    simpa [e2] using ht

/-! ### What a text with escapes says -/
def hexF (b : UInt8) : Int := if 48 ≤ b.toNat ∧ b.toNat ≤ 57 then b.toNat - 48 else if 97 ≤ b.toNat ∧ b.toNat ≤ 102 then b.toNat - 97 + 10 else if 65 ≤ b.toNat ∧ b.toNat ≤ 70 then b.toNat - 65 + 10 else -1
def fourF : List UInt8 → Int
  | a :: b :: c :: d :: _ => if hexF a < 0 ∨ hexF b < 0 ∨ hexF c < 0 ∨ hexF d < 0 then -1 else ((hexF a * 16 + hexF b) * 16 + hexF c) * 16 + hexF d
  | _ => -1
def escF (b : UInt8) : List UInt8 := if b = 34 ∨ b = 39 ∨ b = 92 ∨ b = 47 then [b] else if b = 98 then [8] else if b = 102 then [12] else if b = 110 then [10] else if b = 114 then [13] else if b = 116 then [9] else []
def lowF (n : Int) (t : List UInt8) : Int := match t with
  | a :: b :: t => if n < 56320 ∧ a = 92 ∧ b = 117 then fourF t else -1
  | _ => -1
/-- What the first part of a text stands for, how long it is, and whether it is fine (1), wrong (2) or open (0). -/
def stepU : List UInt8 → Int × List UInt8 × Nat
  | [] => (1, [], 1)
  | b :: t => if b ≠ 92 then (1, [b], 1) else match t with
    | [] => (2, [], 1)
    | e :: t => if escF e ≠ [] then (1, escF e, 2) else if e ≠ 117 then (2, [], 1) else if fourF t < 0 then (2, [], 1) else
      if 55296 ≤ fourF t ∧ fourF t < 57344 then
        if lowF (fourF t) (t.drop 4) < 56320 ∨ 57344 ≤ lowF (fourF t) (t.drop 4) then (0, [], 1)
        else (1, enc (65536 + (fourF t - 55296) * 1024 + lowF (fourF t) (t.drop 4) - 56320).toNat, 12)
      else (1, enc (fourF t).toNat, 6)
def unF : Nat → List UInt8 → Int × List UInt8
  | 0, _ => (1, [])
  | f + 1, l => if l = [] then (1, []) else if (stepU l).1 ≠ 1 then ((stepU l).1, []) else ((unF f (l.drop (stepU l).2.2)).1, (stepU l).2.1 ++ (unF f (l.drop (stepU l).2.2)).2)
theorem stepU_pos (l : List UInt8) : 1 ≤ (stepU l).2.2 := by
  unfold stepU
  repeat' split
  all_goals simp
theorem unF_fuel : ∀ (f : Nat) (l : List UInt8), l.length ≤ f → unF f l = unF l.length l
  | 0, l, h => by rw [List.eq_nil_of_length_eq_zero (by omega : l.length = 0)]; rfl
  | f + 1, [], _ => by simp [unF]
  | f + 1, b :: t, h => by
    have hp := stepU_pos (b :: t)
    have hd : ((b :: t).drop (stepU (b :: t)).2.2).length ≤ t.length := by rw [List.length_drop]; simp; omega
    simp only [List.length_cons] at h ⊢
    simp only [unF]
    rw [unF_fuel f _ (by omega), unF_fuel t.length _ hd]
/-- What a text says. -/
def unL (l : List UInt8) : Int × List UInt8 := unF l.length l
theorem unL_nil : unL [] = (1, []) := rfl
theorem unL_step {l : List UInt8} (hl : l ≠ []) : unL l = if (stepU l).1 ≠ 1 then ((stepU l).1, []) else ((unL (l.drop (stepU l).2.2)).1, (stepU l).2.1 ++ (unL (l.drop (stepU l).2.2)).2) := by
  cases l with
  | nil => exact absurd rfl hl
  | cons b t =>
    have hp := stepU_pos (b :: t)
    have hd : ((b :: t).drop (stepU (b :: t)).2.2).length ≤ t.length := by rw [List.length_drop]; simp; omega
    unfold unL
    rw [List.length_cons, unF, if_neg (by simp), unF_fuel _ _ hd]
theorem unL_plain {b : UInt8} {t : List UInt8} (hb : b ≠ 92) : unL (b :: t) = ((unL t).1, b :: (unL t).2) := by
  rw [unL_step (by simp)]
  have : stepU (b :: t) = (1, [b], 1) := by simp [stepU, hb]
  rw [this]
  simp
theorem unL_chunk : ∀ {c t : List UInt8}, (∀ b ∈ c, b ≠ 92) → unL (c ++ t) = ((unL t).1, c ++ (unL t).2)
  | [], t, _ => by simp
  | b :: c, t, h => by
    rw [List.cons_append, unL_plain (h b (by simp)), unL_chunk (fun x hx => h x (by simp [hx]))]
    simp
theorem unL_esc {e : UInt8} {t : List UInt8} (he : escF e ≠ []) : unL (92 :: e :: t) = ((unL t).1, escF e ++ (unL t).2) := by
  rw [unL_step (by simp)]
  have : stepU (92 :: e :: t) = (1, escF e, 2) := by simp [stepU, he]
  rw [this]
  simp
theorem unL_four {t : List UInt8} (h0 : 0 ≤ fourF t) (hs : ¬ (55296 ≤ fourF t ∧ fourF t < 57344)) : unL (92 :: 117 :: t) = ((unL (t.drop 4)).1, enc (fourF t).toNat ++ (unL (t.drop 4)).2) := by
  rw [unL_step (by simp)]
  have : stepU (92 :: 117 :: t) = (1, enc (fourF t).toNat, 6) := by
    have e : escF 117 = [] := by decide
    simp only [stepU]
    rw [if_neg (by simp), if_neg (by simp [e]), if_neg (by simp), if_neg (by omega), if_neg hs]
  rw [this]
  simp

/-! ### How a text is written with escapes -/
def figF (n : Nat) : UInt8 := if n < 10 then (48 + n).toUInt8 else (87 + n).toUInt8
def hex4 (r : Nat) : List UInt8 := [figF (r / 4096 % 16), figF (r / 256 % 16), figF (r / 16 % 16), figF (r % 16)]
def escB (single : Bool) (r : Nat) : List UInt8 :=
  if r = 34 then (if single then [34] else [92, 34])
  else if r = 39 then (if single then [92, 39] else [39])
  else if r = 92 then [92, 92] else if r = 8 then [92, 98] else if r = 12 then [92, 102] else if r = 10 then [92, 110] else if r = 13 then [92, 114] else if r = 9 then [92, 116]
  else if r < 32 ∨ (127 ≤ r ∧ r ≤ 159) then 92 :: 117 :: hex4 r
  else enc r
set_option maxRecDepth 100000 in
theorem four_hex4 : ∀ r, r < 160 → ∀ t : List UInt8, fourF (hex4 r ++ t) = r := by
  have : ∀ r, r < 160 → hexF (figF (r / 4096 % 16)) = r / 4096 % 16 ∧ hexF (figF (r / 256 % 16)) = r / 256 % 16 ∧ hexF (figF (r / 16 % 16)) = r / 16 % 16 ∧ hexF (figF (r % 16)) = r % 16 := by decide
  intro r hr t
  obtain ⟨h1, h2, h3, h4⟩ := this r hr
  simp only [hex4, List.cons_append, fourF, h1, h2, h3, h4]
  rw [if_neg (by omega)]
  omega
set_option maxRecDepth 100000 in
theorem hex4_ascii : ∀ r, r < 160 → ∀ b ∈ hex4 r, b.toNat < 128 ∧ b ≠ 92 ∧ b ≠ 34 ∧ b ≠ 39 := by decide
theorem high_ne {r : Nat} (h : 128 ≤ r) {c : UInt8} (hc : c.toNat < 128) : ∀ b ∈ enc r, b ≠ c := fun b hb e => by
  have := enc_high h b hb
  rw [e] at this; omega
/-- What is said stays. -/
theorem unL_escB (single : Bool) {r : Nat} (t : List UInt8) : unL (escB single r ++ t) = ((unL t).1, enc r ++ (unL t).2) := by
  unfold escB
  by_cases h34 : r = 34
  · subst h34
    cases single
    · exact unL_esc (by decide)
    · exact unL_plain (by decide)
  by_cases h39 : r = 39
  · subst h39
    cases single
    · exact unL_plain (by decide)
    · exact unL_esc (by decide)
  rw [if_neg h34, if_neg h39]
  by_cases h92 : r = 92
  · subst h92; exact unL_esc (by decide)
  by_cases h8 : r = 8
  · subst h8; exact unL_esc (by decide)
  by_cases h12 : r = 12
  · subst h12; exact unL_esc (by decide)
  by_cases h10 : r = 10
  · subst h10; exact unL_esc (by decide)
  by_cases h13 : r = 13
  · subst h13; exact unL_esc (by decide)
  by_cases h9 : r = 9
  · subst h9; exact unL_esc (by decide)
  rw [if_neg h92, if_neg h8, if_neg h12, if_neg h10, if_neg h13, if_neg h9]
  split
  · rename_i h
    have hr : r < 160 := by omega
    have h4 := four_hex4 r hr t
    have := unL_four (t := hex4 r ++ t) (by omega) (by omega)
    rw [h4] at this
    simpa [hex4] using this
  · refine unL_chunk fun b hb => ?_
    by_cases hr : r < 128
    · rw [enc_ascii hr] at hb
      simp at hb
      intro e
      rw [e] at hb
      have := congrArg UInt8.toNat hb
      simp at this
      omega
    · exact high_ne (by omega) (by decide) b hb
theorem val_list : ∀ (l : List UInt8), (∀ b ∈ l, b.toNat < 128) → Val l
  | [], _ => Val.nil
  | b :: l, h => Val.ascii (h b (by simp)) (val_list l fun x hx => h x (by simp [hx]))
theorem val_escB (single : Bool) {r : Nat} (h : Sc r) : Val (escB single r) := by
  by_cases hr : r < 32 ∨ (127 ≤ r ∧ r ≤ 159)
  · unfold escB
    repeat' split
    all_goals first
      | exact val_list _ (by decide)
      | exact absurd hr ‹_›
      | exact Val.ascii (by decide) (Val.ascii (by decide) (val_list _ fun b hb => (hex4_ascii r (by omega) b hb).1))
  · have he : Val (enc r) := by simpa using Val.cons h Val.nil
    unfold escB
    repeat' split
    all_goals first
      | exact val_list _ (by decide)
      | exact he
/-- A text, written with escapes. -/
def escL (single : Bool) (cs : List Nat) : List UInt8 := cs.flatMap (escB single)
theorem unL_escL (single : Bool) : ∀ (cs : List Nat), unL (escL single cs) = (1, cs.flatMap enc)
  | [] => rfl
  | r :: cs => by
    have := unL_escL single cs
    rw [show escL single (r :: cs) = escB single r ++ escL single cs by simp [escL], unL_escB, this]
    simp
theorem val_escL (single : Bool) : ∀ (cs : List Nat), (∀ r ∈ cs, Sc r) → Val (escL single cs)
  | [], _ => Val.nil
  | r :: cs, h => by
    rw [show escL single (r :: cs) = escB single r ++ escL single cs by simp [escL]]
    exact (val_escB single (h r (by simp))).append (val_escL single cs fun x hx => h x (by simp [hx]))
end Go.Proofs.YtceepfnjdkfjnaaFmt
