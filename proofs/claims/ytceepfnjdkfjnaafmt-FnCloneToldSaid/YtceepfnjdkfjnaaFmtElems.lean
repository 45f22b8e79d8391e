/-
  Rows of expressions: what they hold, and that they stay and grow. Plain words on worlds; no function is walked.
-/
import Derived.Test.YtceepfnjdkfjnaaFmtAst
namespace Go.Proofs.YtceepfnjdkfjnaaFmt
open Go.ChangeShapes Go.WideShapes Go.ChangeAt Go.RowKit Go.Joins

/-- The cells of a row of expressions; the trees lie in S, apart from each other. -/
def Elems (w : World) (S : Nat → Prop) (l : List Tr) (xs : List Value) : Prop :=
  ∃ (ys bs : Nat → Nat) (SS : Nat → Nat → Prop), xs.length = l.length * 2 ∧
    (∀ i, i < l.length → xs[i * 2]? = some (.iface (ys i) (.pointer (some ⟨bs i, 0, none⟩))) ∧ xs[i * 2 + 1]? = some (.slice none 0 0)) ∧
    (∀ i, i < l.length → ∀ k, SS i k → S k ∧ k < w.heap.size) ∧ (∀ i j, i < j → j < l.length → ∀ k, SS i k → ¬ SS j k) ∧ ∀ i t, l[i]? = some t → Ast w (SS i) t (ys i) (bs i)
theorem elems_nil (w : World) (S : Nat → Prop) : Elems w S [] [] := ⟨fun _ => 0, fun _ => 0, fun _ _ => False, rfl, fun i h => absurd h (by simp), fun i h => absurd h (by simp), fun i j _ h => absurd h (by simp), fun i t h => by simp at h⟩
theorem Elems.keep {w w' : World} {S T : Nat → Prop} {l : List Tr} {xs : List Value} (h : Elems w S l xs) (hT : ∀ k, S k → k < w.heap.size → T k) (hb : ∀ k, S k → k < w.heap.size → w'.heap[k]? = w.heap[k]?) (hz : w.heap.size ≤ w'.heap.size) : Elems w' T l xs := by
  obtain ⟨ys, bs, SS, h1, h2, h3, h4, h5⟩ := h
  exact ⟨ys, bs, SS, h1, h2, fun i hi k hk => ⟨hT k (h3 i hi k hk).1 (h3 i hi k hk).2, Nat.lt_of_lt_of_le (h3 i hi k hk).2 hz⟩, h4, fun i t ht => (h5 i t ht).keep (fun _ h _ => h) (fun k hk hl => hb k (h3 i (List.getElem?_eq_some_iff.1 ht).1 k hk).1 hl)⟩
theorem Elems.below {w w' : World} {S : Nat → Prop} {l : List Tr} {xs : List Value} (h : Elems w S l xs) (hb : Below w.heap.size w w') : Elems w' S l xs := h.keep (fun _ h _ => h) (fun k _ hk => hb.block k hk) hb.size
/-- One expression more, in blocks that are new. -/
theorem Elems.push {w w' : World} {S S' : Nat → Prop} {l : List Tr} {xs : List Value} {t : Tr} {y b : Nat} (h : Elems w S l xs) (hb : Below w.heap.size w w') (ha : Ast w' S' t y b) (hS : ∀ k, S' k → w.heap.size ≤ k ∧ k < w'.heap.size ∧ S k) :
    Elems w' S (l ++ [t]) (xs ++ [.iface y (.pointer (some ⟨b, 0, none⟩)), .slice none 0 0]) := by
  obtain ⟨ys, bs, SS, h1, h2, h3, h4, h5⟩ := h
  refine ⟨fun i => if i < l.length then ys i else y, fun i => if i < l.length then bs i else b, fun i => if i < l.length then SS i else S', by simp [h1]; omega, fun i hi => ?_, fun i hi k hk => ?_, fun i j hij hj k hk hk' => ?_, fun i u hu => ?_⟩
  · by_cases hl : i < l.length
    · simp only [if_pos hl]
      rw [List.getElem?_append_left (by omega), List.getElem?_append_left (by omega)]
      exact h2 i hl
    · have e : i = l.length := by simp at hi; omega
      subst e
      simp only [if_neg hl]
      rw [List.getElem?_append_right (by omega), List.getElem?_append_right (by omega), h1, show l.length * 2 - l.length * 2 = 0 by omega, show l.length * 2 + 1 - l.length * 2 = 1 by omega]
      exact ⟨rfl, rfl⟩
  · by_cases hl : i < l.length
    · simp only [if_pos hl] at hk
      exact ⟨(h3 i hl k hk).1, Nat.lt_of_lt_of_le (h3 i hl k hk).2 hb.size⟩
    · simp only [if_neg hl] at hk
      exact ⟨(hS k hk).2.2, (hS k hk).2.1⟩
  · have hi : i < l.length := by simp at hj; omega
    simp only [if_pos hi] at hk
    by_cases hl : j < l.length
    · simp only [if_pos hl] at hk'
      exact h4 i j hij hl k hk hk'
    · simp only [if_neg hl] at hk'
      have a1 := (h3 i hi k hk).2
      have a2 := (hS k hk').1
      omega
  · by_cases hl : i < l.length
    · simp only [if_pos hl]
      rw [List.getElem?_append_left hl] at hu
      exact (h5 i u hu).bel hb
    · simp only [if_neg hl]
      have hi : i < l.length + 1 := by
        have := (List.getElem?_eq_some_iff.1 hu).1
        simpa using this
      have e : i = l.length := by omega
      subst e
      rw [List.getElem?_append_right (by omega)] at hu
      obtain rfl : t = u := by simpa using hu
      exact ha
/-- A row of expressions, as a list of arguments or elements holds it. -/
theorem Elems.row {w : World} {S : Nat → Prop} {l : List Tr} {xs : List Value} {base : Nat} {v : Value} (h : Elems w S l xs) (ho : w.ownsRow base 130 2 v l.length xs) :
    ∃ (g : Nat) (cur : Array Value) (a : Option Addr) (cap : Nat) (ys bs : Nat → Nat) (SS : Nat → Nat → Prop), v = .slice a l.length cap ∧ (0 < l.length → a = some ⟨g, 0, none⟩ ∧ base ≤ g ∧ v.ownBlock = some g ∧ g < w.heap.size ∧ w.heap[g]? = some (.cells cur 130)) ∧ l.length ≤ cap ∧
      (∀ i, i < l.length → cur[i * 2]? = some (.iface (ys i) (.pointer (some ⟨bs i, 0, none⟩))) ∧ cur[i * 2 + 1]? = some (.slice none 0 0)) ∧
      (∀ i, i < l.length → ∀ k, SS i k → S k ∧ k < w.heap.size) ∧ (∀ i j, i < j → j < l.length → ∀ k, SS i k → ¬ SS j k) ∧ ∀ i t, l[i]? = some t → Ast w (SS i) t (ys i) (bs i) := by
  obtain ⟨ys, bs, SS, h1, h2, h3, h4, h5⟩ := h
  rcases ho.2 with ⟨rfl, h0⟩ | ⟨g, cap, cur, rfl, hg, hh, hcap, _, hsz, htk⟩
  · exact ⟨0, #[], none, 0, ys, bs, SS, by rw [h0], fun h => by omega, by omega, fun i hi => by omega, h3, h4, h5⟩
  · refine ⟨g, cur, _, cap, ys, bs, SS, rfl, fun _ => ⟨rfl, hg, rfl, heap_lt hh, hh⟩, hcap, fun i hi => ?_, h3, h4, h5⟩
    have key : ∀ j v, xs[j]? = some v → cur[j]? = some v := fun j v hv => by
      rw [← htk] at hv
      have hj : j < l.length * 2 := by
        have := (List.getElem?_eq_some_iff.1 hv).1
        simp at this
        omega
      rw [List.getElem?_take_of_lt hj] at hv
      simpa using hv
    exact ⟨key _ _ (h2 i hi).1, key _ _ (h2 i hi).2⟩
end Go.Proofs.YtceepfnjdkfjnaaFmt
