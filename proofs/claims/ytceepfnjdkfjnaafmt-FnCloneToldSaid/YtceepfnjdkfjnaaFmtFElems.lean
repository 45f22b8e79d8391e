/-
  Rows of fields: what they hold, and that they stay and grow. Plain words on worlds; no function is walked.
-/
import Derived.Test.YtceepfnjdkfjnaaFmtAst
import Derived.Test.YtceepfnjdkfjnaaFmtElems
namespace Go.Proofs.YtceepfnjdkfjnaaFmt
open Go.ChangeShapes Go.WideShapes Go.ChangeAt Go.RowKit Go.Joins

/-- One field: its cells, its name's block and its trees, all in blocks from lo to hi. -/
structure FOne (w : World) (S : Nat → Prop) (lo hi : Nat) (F : Fld) (S1 S2 : Nat → Prop) (t : Tr) (cell : Nat → Option Value) : Prop where
  row : (∃ c u, t = .mk 37 t.tx t.op t.fl [u] ∧ F.id = some c ∧ w.heap[c]? = some (.cells #[.string t.tx] 121) ∧ ∀ j v, (F.rowId t.op t.fl c)[j]? = some v → cell j = some v) ∨
    (∃ t1 t2, t = .mk 39 ByteArray.empty t.op t.fl [t1, t2] ∧ F.id = none ∧ ∀ j v, (F.rowStr t.op t.fl)[j]? = some v → cell j = some v)
  range : ∀ k, S1 k ∨ S2 k ∨ F.id = some k → lo ≤ k ∧ k < hi ∧ S k
  d12 : ∀ k, S1 k → ¬ S2 k
  did : ∀ k, F.id = some k → ¬ (S1 k ∨ S2 k)
  a1 : ∀ k op fl t1 t2, t = .mk k ByteArray.empty op fl [t1, t2] → Ast w S1 t1 F.y1 F.b1
  a2 : ∀ u, t.subs.getLast? = some u → Ast w S2 u F.y2 F.b2
theorem FOne.keep {w w' : World} {S T : Nat → Prop} {lo hi : Nat} {F : Fld} {S1 S2 : Nat → Prop} {t : Tr} {cell cell' : Nat → Option Value} (h : FOne w S lo hi F S1 S2 t cell) (hc : ∀ j, j < 18 → cell' j = cell j)
    (hhi : hi ≤ w.heap.size) (hT : ∀ k, S k → k < w.heap.size → T k) (hb : ∀ k, S k → k < w.heap.size → w'.heap[k]? = w.heap[k]?) : FOne w' T lo hi F S1 S2 t cell' where
  row := by
    rcases h.row with ⟨c, u, e, hi', hh, hr⟩ | ⟨t1, t2, e, hi', hr⟩
    · have hr' := h.range c (.inr (.inr hi'))
      exact .inl ⟨c, u, e, hi', (hb c hr'.2.2 (by omega)).trans hh, fun j v hv => by
        have hj : j < 18 := (List.getElem?_eq_some_iff.1 hv).1
        rw [hc j hj]; exact hr j v hv⟩
    · exact .inr ⟨t1, t2, e, hi', fun j v hv => by
        have hj : j < 18 := (List.getElem?_eq_some_iff.1 hv).1
        rw [hc j hj]; exact hr j v hv⟩
  range := fun k hk => by
    have := h.range k hk
    exact ⟨this.1, this.2.1, hT k this.2.2 (by omega)⟩
  d12 := h.d12
  did := h.did
  a1 := fun k op fl t1 t2 e => (h.a1 k op fl t1 t2 e).keep (fun _ h _ => h) (fun k hk hl => hb k (h.range k (.inl hk)).2.2 hl)
  a2 := fun u e => (h.a2 u e).keep (fun _ h _ => h) (fun k hk hl => hb k (h.range k (.inr (.inl hk))).2.2 hl)
/-- The cells of a row of fields. -/
def FElems (w : World) (S : Nat → Prop) (l : List Tr) (xs : List Value) : Prop :=
  ∃ (F : Nat → Fld) (S1 S2 : Nat → Nat → Prop) (R : Nat → Nat), xs.length = l.length * 18 ∧ (∀ i j, i ≤ j → j ≤ l.length → R i ≤ R j) ∧ R l.length ≤ w.heap.size ∧
    ∀ i t, l[i]? = some t → FOne w S (R i) (R (i + 1)) (F i) (S1 i) (S2 i) t (fun j => xs[i * 18 + j]?)
theorem felems_nil (w : World) (S : Nat → Prop) : FElems w S [] [] :=
  ⟨fun _ => ⟨0, 0, 0, 0, none, none, none, none, none, 0, 0, 0, 0⟩, fun _ _ => False, fun _ _ => False, fun _ => 0, rfl, fun _ _ _ _ => Nat.le_refl _, Nat.zero_le _, fun i t h => by simp at h⟩
theorem FElems.keep {w w' : World} {S T : Nat → Prop} {l : List Tr} {xs : List Value} (h : FElems w S l xs) (hT : ∀ k, S k → k < w.heap.size → T k) (hb : ∀ k, S k → k < w.heap.size → w'.heap[k]? = w.heap[k]?) (hz : w.heap.size ≤ w'.heap.size) : FElems w' T l xs := by
  obtain ⟨F, S1, S2, R, h1, h2, h3, h4⟩ := h
  refine ⟨F, S1, S2, R, h1, h2, Nat.le_trans h3 hz, fun i t ht => (h4 i t ht).keep (fun _ _ => rfl) ?_ hT hb⟩
  have hi := (List.getElem?_eq_some_iff.1 ht).1
  exact Nat.le_trans (h2 (i + 1) l.length (by omega) (Nat.le_refl _)) h3
theorem FElems.below {w w' : World} {S : Nat → Prop} {l : List Tr} {xs : List Value} (h : FElems w S l xs) (hb : Below w.heap.size w w') : FElems w' S l xs := h.keep (fun _ h _ => h) (fun k _ hk => hb.block k hk) hb.size
/-- One field more, in blocks that are new. -/
theorem FElems.push {w w' : World} {S : Nat → Prop} {l : List Tr} {xs row : List Value} {t : Tr} {F' : Fld} {S1' S2' : Nat → Prop} (h : FElems w S l xs) (hb : Below w.heap.size w w') (hr : row.length = 18) (hf : FOne w' S w.heap.size w'.heap.size F' S1' S2' t (fun j => row[j]?)) :
    FElems w' S (l ++ [t]) (xs ++ row) := by
  obtain ⟨F, S1, S2, R, h1, h2, h3, h4⟩ := h
  refine ⟨fun i => if i < l.length then F i else F', fun i => if i < l.length then S1 i else S1', fun i => if i < l.length then S2 i else S2', fun i => if i < l.length then R i else if i = l.length then w.heap.size else w'.heap.size, by simp [h1, hr]; omega, fun i j hij hj => ?_, ?_, fun i u hu => ?_⟩
  · dsimp only
    by_cases hi : i < l.length
    · rw [if_pos hi]
      by_cases hj' : j < l.length
      · rw [if_pos hj']; exact h2 i j hij (by omega)
      · rw [if_neg hj']
        have a1 := h2 i l.length (by omega) (Nat.le_refl _)
        have a2 := hb.size
        split <;> omega
    · rw [if_neg hi, if_neg (show ¬ j < l.length by omega)]
      have a2 := hb.size
      split <;> split <;> omega
  · have e : (l ++ [t]).length = l.length + 1 := by simp
    dsimp only
    rw [e, if_neg (by omega), if_neg (by omega)]
    exact Nat.le_refl _
  · by_cases hl : i < l.length
    · rw [List.getElem?_append_left hl] at hu
      have h5 := h4 i u hu
      simp only [if_pos hl]
      by_cases he : i + 1 < l.length
      · simp only [if_pos he]
        exact h5.keep (fun j hj => by rw [List.getElem?_append_left (by omega)]) (Nat.le_trans (h2 (i + 1) l.length (by omega) (Nat.le_refl _)) h3) (fun _ h _ => h) (fun k _ hk => hb.block k hk)
      · have e : i + 1 = l.length := by omega
        simp only [if_neg he, if_pos e]
        have h6 := h5.keep (cell' := fun j => (xs ++ row)[i * 18 + j]?) (T := S) (fun j hj => by rw [List.getElem?_append_left (by omega)]) (Nat.le_trans (h2 (i + 1) l.length (by omega) (Nat.le_refl _)) h3) (fun _ h _ => h) (fun k _ hk => hb.block k hk)
        have hle : R (i + 1) ≤ w.heap.size := by rw [e]; exact h3
        exact { row := h6.row, range := fun k hk => ⟨(h6.range k hk).1, by have := (h6.range k hk).2.1; omega, (h6.range k hk).2.2⟩, d12 := h6.d12, did := h6.did, a1 := h6.a1, a2 := h6.a2 }
    · have hi : i < l.length + 1 := by
        have := (List.getElem?_eq_some_iff.1 hu).1
        simpa using this
      have e : i = l.length := by omega
      subst e
      rw [List.getElem?_append_right (by omega)] at hu
      obtain rfl : t = u := by simpa using hu
      simp only [if_neg hl, if_neg (show ¬ l.length + 1 < l.length by omega), if_true, if_neg (show ¬ l.length + 1 = l.length by omega)]
      exact hf.keep (fun j hj => by rw [List.getElem?_append_right (by omega), h1, show l.length * 18 + j - l.length * 18 = j by omega]) (Nat.le_refl _) (fun _ h _ => h) (fun _ _ _ => rfl)
/-- An object out of its row of fields. -/
theorem FElems.object {w : World} {S : Nat → Prop} {l : List Tr} {xs : List Value} {b cap : Nat} {a : Option Addr} {T : Nat → Prop} (h : FElems w S l xs) (ho : w.ownsRow (b + 1) 232 18 (.slice a l.length cap) l.length xs) (hS : ∀ k, S k → b < k ∧ (Value.slice a l.length cap).ownBlock ≠ some k)
    (hT : ∀ k, b ≤ k → k < w.heap.size → T k)
    (hb : w.heap[b]? = some (.cells #[.slice a l.length cap, .slice none 0 0, .slice none 0 0, .pointer none, .slice none 0 0, .pointer none, .string ByteArray.empty, .int .i64 0, .int .i64 0, .int .i64 0, .int .i64 0, .bool false] 144)) :
    Ast w T (.mk 20 ByteArray.empty 0 false l) 139 b := by
  obtain ⟨F, S1, S2, R, h1, h2, h3, h4⟩ := h
  have hbl := heap_lt hb
  obtain ⟨g, cur, hg, hcap, key⟩ : ∃ (g : Nat) (cur : Array Value), (0 < l.length → a = some ⟨g, 0, none⟩ ∧ b < g ∧ g < w.heap.size ∧ w.heap[g]? = some (.cells cur 232)) ∧ l.length ≤ cap ∧ (∀ j v, xs[j]? = some v → cur[j]? = some v) := by
    rcases ho.2 with ⟨e, h0⟩ | ⟨g, cap', cur, e, hg, hh, hcap, _, hsz, htk⟩
    · injection e with e1 e2 e3
      exact ⟨0, #[], fun h => by omega, by omega, fun j v hv => by
        have h5 := (List.getElem?_eq_some_iff.1 hv).1
        omega⟩
    · injection e with e1 e2 e3
      refine ⟨g, cur, fun _ => ⟨e1, by omega, heap_lt hh, hh⟩, by omega, fun j v hv => ?_⟩
      rw [← htk] at hv
      have hj : j < l.length * 18 := by
        have := (List.getElem?_eq_some_iff.1 hv).1
        simp at this
        omega
      rw [List.getElem?_take_of_lt hj] at hv
      simpa using hv
  have one : ∀ i, i < l.length → ∃ t, l[i]? = some t := fun i hi => ⟨_, List.getElem?_eq_getElem hi⟩
  have up : ∀ i, i < l.length → R (i + 1) ≤ w.heap.size := fun i hi => Nat.le_trans (h2 (i + 1) l.length (by omega) (Nat.le_refl _)) h3
  have ng : ∀ k, S k → 0 < l.length → k ≠ g := fun k hk h0 e => by
    have := (hS k hk).2
    rw [(hg h0).1] at this
    exact this (by simp [Value.ownBlock, e])
  refine .object (S1 := S1) (S2 := S2) (F := F) b g cur none none none 0 0 0 cap false a (hT b (Nat.le_refl _) hbl) (fun h0 => ⟨(hg h0).1, hT g (by have := (hg h0).2.1; omega) (hg h0).2.2.1, by have := (hg h0).2.1; omega, (hg h0).2.2.2⟩) hcap (fun i t ht => ?_) (fun i hi k hk => ?_) (fun i hi k hk => ?_) (fun i j hij hj k hk hk' => ?_) (fun i j hij hj k hk hk' => ?_) hb (fun i k op fl t1 t2 ht => (h4 i _ ht).a1 k op fl t1 t2 rfl) (fun i t u ht hu => (h4 i t ht).a2 u hu)
  · have hi := (List.getElem?_eq_some_iff.1 ht).1
    rcases (h4 i t ht).row with ⟨c, u, e, hid, hh, hr⟩ | ⟨t1, t2, e, hid, hr⟩
    · have hrg := (h4 i t ht).range c (.inr (.inr hid))
      exact .inl ⟨c, u, e, hid, hT c (by have := (hS c hrg.2.2).1; omega) (by have := up i hi; omega), by have := (hS c hrg.2.2).1; omega, ng c hrg.2.2 (by omega), hh, fun j v hv => key _ v (hr j v hv)⟩
    · exact .inr ⟨t1, t2, e, hid, fun j v hv => key _ v (hr j v hv)⟩
  · obtain ⟨t, ht⟩ := one i hi
    have hrg := (h4 i t ht).range k (hk.imp id .inl)
    refine ⟨hT k (by have := (hS k hrg.2.2).1; omega) (by have := up i hi; omega), by have := (hS k hrg.2.2).1; omega, ng k hrg.2.2 (by omega), fun j hj e => ?_⟩
    obtain ⟨t', ht'⟩ := one j hj
    have hrg' := (h4 j t' ht').range k (.inr (.inr e))
    rcases Nat.lt_trichotomy i j with hij | hij | hij
    · have := h2 (i + 1) j (by omega) (by omega); omega
    · subst hij
      exact (h4 i t' ht').did k e hk
    · have := h2 (j + 1) i (by omega) (by omega); omega
  · obtain ⟨t, ht⟩ := one i hi
    exact (h4 i t ht).d12 k hk
  · obtain ⟨t, ht⟩ := one i (by omega)
    obtain ⟨t', ht'⟩ := one j hj
    have a1 := (h4 i t ht).range k (hk.imp id .inl)
    have a2 := (h4 j t' ht').range k (hk'.imp id .inl)
    have := h2 (i + 1) j (by omega) (by omega)
    omega
  · obtain ⟨t, ht⟩ := one i (by omega)
    obtain ⟨t', ht'⟩ := one j hj
    have a1 := (h4 i t ht).range k (.inr (.inr hk))
    have a2 := (h4 j t' ht').range k (.inr (.inr hk'))
    have := h2 (i + 1) j (by omega) (by omega)
    omega
end Go.Proofs.YtceepfnjdkfjnaaFmt
