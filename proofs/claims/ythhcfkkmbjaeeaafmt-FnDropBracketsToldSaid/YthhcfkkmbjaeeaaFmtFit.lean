/-
  What the changes of a tree look for is there, where spec.Tree tells so. No function is walked.
-/
import Derived.Test.YthhcfkkmbjaeeaaFmtBase
namespace Go.Proofs.YthhcfkkmbjaeeaaFmt
/-- Brackets, indexes and fields with strings have what is below them, everywhere in a tree. -/
inductive Fit : Tr → Prop
  | mk (t : Tr) (h : (t.k = 28 → 0 < t.subs.length) ∧ (t.k = 15 → 1 < t.subs.length) ∧ (t.k = 39 → 0 < t.subs.length)) (hs : ∀ s ∈ t.subs, Fit s) : Fit t
theorem Fit.here {t : Tr} (h : Fit t) : (t.k = 28 → 0 < t.subs.length) ∧ (t.k = 15 → 1 < t.subs.length) ∧ (t.k = 39 → 0 < t.subs.length) := by cases h; assumption
theorem Fit.sub {t : Tr} (h : Fit t) : ∀ s ∈ t.subs, Fit s := by cases h; assumption
theorem ok_fit {t : Tr} (h : Ok t) : Fit t := by
  have no : ∀ {t : Tr}, t.k ≠ 28 → t.k ≠ 15 → t.k ≠ 39 → (∀ s ∈ t.subs, Fit s) → Fit t := fun h1 h2 h3 hs => .mk _ ⟨fun e => absurd e h1, fun e => absurd e h2, fun e => absurd e h3⟩ hs
  have leaf : ∀ tx op fl, Fit (.mk 4 tx op fl []) := fun tx op fl => no (by simp [Tr.k]) (by simp [Tr.k]) (by simp [Tr.k]) (by simp [Tr.subs])
  induction h with
  | null => exact no (by simp [Tr.k]) (by simp [Tr.k]) (by simp [Tr.k]) (by simp [Tr.subs])
  | boolean fl => exact no (by simp [Tr.k]) (by simp [Tr.k]) (by simp [Tr.k]) (by simp [Tr.subs])
  | number tx => exact no (by simp [Tr.k]) (by simp [Tr.k]) (by simp [Tr.k]) (by simp [Tr.subs])
  | str tx op h0 h4 => exact leaf tx op false
  | self => exact no (by simp [Tr.k]) (by simp [Tr.k]) (by simp [Tr.k]) (by simp [Tr.subs])
  | dollar => exact no (by simp [Tr.k]) (by simp [Tr.k]) (by simp [Tr.k]) (by simp [Tr.subs])
  | var tx => exact no (by simp [Tr.k]) (by simp [Tr.k]) (by simp [Tr.k]) (by simp [Tr.subs])
  | unary op t1 h0 h4 a1 ih1 => exact no (by simp [Tr.k]) (by simp [Tr.k]) (by simp [Tr.k]) (by simpa [Tr.subs] using ih1)
  | binary op t1 t2 h0 h4 a1 a2 ih1 ih2 => exact no (by simp [Tr.k]) (by simp [Tr.k]) (by simp [Tr.k]) (by simpa [Tr.subs] using ⟨ih1, ih2⟩)
  | if2 t1 t2 a1 a2 ih1 ih2 => exact no (by simp [Tr.k]) (by simp [Tr.k]) (by simp [Tr.k]) (by simpa [Tr.subs] using ⟨ih1, ih2⟩)
  | if3 t1 t2 t3 a1 a2 a3 ih1 ih2 ih3 => exact no (by simp [Tr.k]) (by simp [Tr.k]) (by simp [Tr.k]) (by simpa [Tr.subs] using ⟨ih1, ih2, ih3⟩)
  | brace t1 t2 a1 a2 ih1 ih2 => exact no (by simp [Tr.k]) (by simp [Tr.k]) (by simp [Tr.k]) (by simpa [Tr.subs] using ⟨ih1, ih2⟩)
  | index t1 t2 a1 a2 ih1 ih2 => exact .mk _ (by simp [Tr.k, Tr.subs]) (by simpa [Tr.subs] using ⟨ih1, ih2⟩)
  | dot tx t1 a1 ih1 => exact no (by simp [Tr.k]) (by simp [Tr.k]) (by simp [Tr.k]) (by simpa [Tr.subs] using ih1)
  | error t1 a1 ih1 => exact no (by simp [Tr.k]) (by simp [Tr.k]) (by simp [Tr.k]) (by simpa [Tr.subs] using ih1)
  | parens t1 a1 ih1 => exact .mk _ (by simp [Tr.k, Tr.subs]) (by simpa [Tr.subs] using ih1)
  | apply t1 l hl a1 aa ih1 iha =>
    refine no (by simp [Tr.k]) (by simp [Tr.k]) (by simp [Tr.k]) fun s hs => ?_
    rcases List.mem_cons.1 (show s ∈ t1 :: l.map _ from hs) with rfl | hs
    · exact ih1
    · obtain ⟨t, ht, rfl⟩ := List.mem_map.1 hs
      exact no (by simp [Tr.k]) (by simp [Tr.k]) (by simp [Tr.k]) (by simpa [Tr.subs] using iha t ht)
  | array l hl aa iha => exact no (by simp [Tr.k]) (by simp [Tr.k]) (by simp [Tr.k]) iha
  | object l hl hf aa iha =>
    refine no (by simp [Tr.k]) (by simp [Tr.k]) (by simp [Tr.k]) fun s hs => ?_
    rcases (hf s hs).2.2 with ⟨t, ht⟩ | ⟨tx, o, t, _, ht⟩
    · have h1 : s.subs = [t] := by rw [ht]; rfl
      refine no (by rw [ht]; simp [Tr.k]) (by rw [ht]; simp [Tr.k]) (by rw [ht]; simp [Tr.k]) fun u hu => ?_
      rw [h1] at hu
      obtain rfl : u = t := by simpa using hu
      exact iha s hs u (by rw [h1]; rfl)
    · have h1 : s.subs = [.mk 4 tx o false [], t] := by rw [ht]; rfl
      have hk : s.k = 39 := by rw [ht]; rfl
      refine .mk _ ⟨fun e => by omega, fun e => by omega, fun _ => by rw [h1]; simp⟩ fun u hu => ?_
      rw [h1] at hu
      simp only [List.mem_cons, List.not_mem_nil, or_false] at hu
      rcases hu with rfl | rfl
      · exact leaf _ _ _
      · exact iha s hs u (by rw [h1]; rfl)
end Go.Proofs.YthhcfkkmbjaeeaaFmt
