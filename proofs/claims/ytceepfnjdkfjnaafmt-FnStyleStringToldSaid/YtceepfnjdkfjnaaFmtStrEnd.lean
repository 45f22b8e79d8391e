/-
  What a text that was styled is. No program in it.
-/
import Derived.Test.YtceepfnjdkfjnaaFmtStrLit
namespace Go.Proofs.YtceepfnjdkfjnaaFmt
open Go

theorem escL_len (single : Bool) : ∀ (cs : List Nat), (escL single cs).length ≤ 6 * (cs.flatMap enc).length
  | [] => by simp [escL]
  | r :: cs => by
    have h1 := (esc_len6 single r).1
    have h2 := escL_len single cs
    rw [show escL single (r :: cs) = escB single r ++ escL single cs by simp [escL], List.flatMap_cons, List.length_append, List.length_append]
    omega
theorem list_bs (l : List UInt8) : (bs l).data.toList = l := by simp [bs]
theorem styled_end {st kd kd' : Int} {v v' : ByteArray} {cs : List Nat} (hst : st = 0 ∨ st = 1) (hkd : kd = 0 ∨ kd = 1) (h : Styled st kd v cs kd' v') (hv : Val v.data.toList) (hf : (unL v.data.toList).1 = 1) (hsay : (unL v.data.toList).2 = cs.flatMap enc) (hcs : ∀ r ∈ cs, Sc r)
    (hb : bareF (quoteF (kd == 0)) v.data.toList = false) (hs : v.size ≤ 400) (hl : (unL v.data.toList).2.length ≤ 400) :
    (kd' = 0 ∨ kd' = 1) ∧ Val v'.data.toList ∧ unL v'.data.toList = (1, (unL v.data.toList).2) ∧ bareF (quoteF (kd' == 0)) v'.data.toList = false ∧
    (39 ∈ cs → 34 ∉ cs → kd' = 1 ∧ behindF 39 v'.data.toList = false) ∧ (39 ∉ cs → 34 ∈ cs → kd' = 0 ∧ behindF 34 v'.data.toList = false) ∧ (39 ∉ cs → 34 ∉ cs → kd' = 1 - st) ∧ v'.size ≤ 2400 := by
  have hcl : (cs.flatMap enc).length ≤ 400 := by rw [← hsay]; exact hl
  have len : ∀ single, (bs (escL single cs)).size ≤ 2400 := fun single => by have := escL_len single cs; rw [bs_size]; omega
  obtain ⟨h1, h2, h3, h4⟩ := h
  by_cases a : 39 ∈ cs
  · by_cases b : 34 ∈ cs
    · obtain ⟨rfl, rfl⟩ := h1 ⟨a, b⟩
      exact ⟨hkd, hv, Prod.ext hf rfl, hb, fun _ h => absurd b h, fun h => absurd a h, fun h => absurd a h, by omega⟩
    · obtain ⟨rfl, rfl⟩ := h2 ⟨a, b⟩
      refine ⟨.inr rfl, ?_, ?_, ?_, fun _ _ => ⟨rfl, ?_⟩, fun h => absurd a h, fun h => absurd a h, len false⟩
      · rw [list_bs]; exact val_escL false cs hcs
      · rw [list_bs, unL_escL, hsay]
      · rw [list_bs]; exact bare_escL false cs
      · rw [list_bs]; exact behind_escL false cs
  · by_cases b : 34 ∈ cs
    · obtain ⟨rfl, rfl⟩ := h3 ⟨a, b⟩
      refine ⟨.inl rfl, ?_, ?_, ?_, fun h => absurd h a, fun _ _ => ⟨rfl, ?_⟩, fun _ h => absurd b h, len true⟩
      · rw [list_bs]; exact val_escL true cs hcs
      · rw [list_bs, unL_escL, hsay]
      · rw [list_bs]; exact bare_escL true cs
      · rw [list_bs]; exact behind_escL true cs
    · obtain ⟨rfl, rfl⟩ := h4 ⟨a, b⟩
      refine ⟨by rcases hst with rfl | rfl <;> simp, ?_, ?_, ?_, fun h => absurd h a, fun _ h => absurd h b, fun _ _ => rfl, len _⟩
      · rw [list_bs]; exact val_escL _ cs hcs
      · rw [list_bs, unL_escL, hsay]
      · rw [list_bs]
        rcases hst with rfl | rfl
        · exact bare_escL false cs
        · exact bare_escL true cs
end Go.Proofs.YtceepfnjdkfjnaaFmt
