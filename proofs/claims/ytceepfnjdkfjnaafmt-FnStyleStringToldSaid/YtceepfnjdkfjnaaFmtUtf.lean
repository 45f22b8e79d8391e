/-
  Texts of whole characters: what is decoded and encoded again is what lay there; a text is cut into lines byte by byte or character by character alike. No program in it.
-/
import Derived.Lib.MapLaws
import Derived.Lib.RuneLoops
import Derived.Stop.FmtQuoteTie
import Derived.Laws.Cover4
import Derived.Laws.IdiomStrings
namespace Go.Proofs.YtceepfnjdkfjnaaFmt
open Go

/-! ### Decoded and encoded again -/
/-- The characters of a text from a place on. -/
def runesN (s : ByteArray) : Nat → Nat → List Int
  | 0, _ => []
  | f + 1, i => if i < s.size then ((Utf8.decode s i).1 : Int) :: runesN s f (i + (Utf8.decode s i).2) else []
theorem convRunes_eq (s : ByteArray) : ∀ (f i : Nat) (acc : Array Value), Conv.runesFrom s f i acc = acc ++ ((runesN s f i).map (Value.int .i32)).toArray
  | 0, i, acc => by simp [Conv.runesFrom, runesN]
  | f + 1, i, acc => by
    unfold Conv.runesFrom runesN
    split
    · simp only []
      rw [convRunes_eq s f]
      apply Array.ext'
      simp
    · simp
theorem enc_list (r : Nat) : (Utf8.encode (r : Int)).data.toList = Lib.encodeRune (r : Int) := by
  have h := Extern.FmtText.encode_eq r
  unfold Lib.encodeRune
  rw [← h, Extern.FmtText.nums, List.map_map]
  refine (List.map_id _).symm.trans (List.map_congr_left fun b _ => ?_)
  simp
theorem fold_list : ∀ (ns : List Int) (s : ByteArray), (ns.foldl (fun r n => r ++ Utf8.encode n) s).data.toList = s.data.toList ++ ns.flatMap fun n => (Utf8.encode n).data.toList
  | [], s => by simp
  | n :: ns, s => by
    rw [List.foldl_cons, fold_list ns, List.flatMap_cons, ← List.append_assoc]
    congr 1
theorem runes_flat (s : ByteArray) : ∀ (f i : Nat), ((runesN s f i).flatMap fun n => (Utf8.encode n).data.toList) = Lib.runesFrom s f i
  | 0, i => by simp [runesN, Lib.runesFrom]
  | f + 1, i => by
    unfold runesN Lib.runesFrom
    split
    · rw [List.flatMap_cons, runes_flat s f, enc_list]
    · rfl
theorem runesBytes_list (s : ByteArray) : (runesBytes (runesN s s.size 0)).data.toList = Lib.runesFrom s s.size 0 := by
  unfold runesBytes
  rw [fold_list, runes_flat]
  rfl
theorem runesN_len (s : ByteArray) : ∀ (f i : Nat), (runesN s f i).length ≤ f
  | 0, i => by simp [runesN]
  | f + 1, i => by
    unfold runesN
    split
    · have := runesN_len s f (i + (Utf8.decode s i).2)
      simp; omega
    · simp
theorem drop_ne {s : ByteArray} {i : Nat} (hi : i < s.size) : s.data.toList.drop i ≠ [] := by
  intro h
  have := congrArg List.length h
  rw [List.length_drop, ← Lib.size_eq] at this
  simp at this
  omega
theorem enc_width {s : ByteArray} {i : Nat} (hi : i < s.size) : (Utf8.decode s i).2 ≤ (Lib.encodeRune ((Utf8.decode s i).1 : Int)).length ∧ i + (Utf8.decode s i).2 ≤ s.size := by
  have hd := Lib.decodeL_drop s i
  have hl := Lib.decodeL_le (s.data.toList.drop i) (drop_ne hi)
  rw [hd, List.length_drop, ← Lib.size_eq] at hl
  refine ⟨?_, by omega⟩
  by_cases hv : (Utf8.decode s i).1 = 65533 ∧ (Utf8.decode s i).2 = 1
  · rw [hv.2]
    have := (Lib.runeCells_le ((Utf8.decode s i).1 : Int)).1
    rw [Lib.runeCells_length] at this
    exact this
  · have e := Lib.encode_decode (s.data.toList.drop i) (drop_ne hi) (by rw [hd]; exact hv)
    rw [hd] at e
    rw [e, List.length_take, List.length_drop, ← Lib.size_eq]
    omega
theorem from_len (s : ByteArray) : ∀ (f i : Nat), s.size ≤ i + f → s.size - i ≤ (Lib.runesFrom s f i).length
  | 0, i, h => by omega
  | f + 1, i, h => by
    unfold Lib.runesFrom
    split
    · rename_i hi
      obtain ⟨h1, h2⟩ := enc_width hi
      have hw := Lib.width_pos s i
      have := from_len s f (i + (Utf8.decode s i).2) (by omega)
      rw [List.length_append]
      omega
    · omega
/-- Where a text stays when it is decoded and encoded again, each of its characters is encoded as it lay there. -/
theorem chunk {s : ByteArray} {f i : Nat} (h : Lib.runesFrom s (f + 1) i = s.data.toList.drop i) (hi : i < s.size) (hf : s.size ≤ i + (f + 1)) :
    Lib.encodeRune ((Utf8.decode s i).1 : Int) = (s.data.toList.drop i).take (Utf8.decode s i).2 ∧ Lib.runesFrom s f (i + (Utf8.decode s i).2) = s.data.toList.drop (i + (Utf8.decode s i).2) := by
  have hd := Lib.decodeL_drop s i
  have hw := Lib.width_pos s i
  obtain ⟨h1, h2⟩ := enc_width hi
  rw [Lib.runesFrom, if_pos hi] at h
  have hfl := from_len s f (i + (Utf8.decode s i).2) (by omega)
  have hlen := congrArg List.length h
  rw [List.length_append, List.length_drop, ← Lib.size_eq] at hlen
  have e : Lib.encodeRune ((Utf8.decode s i).1 : Int) = (s.data.toList.drop i).take (Utf8.decode s i).2 := by
    by_cases hv : (Utf8.decode s i).1 = 65533 ∧ (Utf8.decode s i).2 = 1
    · have h3 : (Lib.encodeRune ((Utf8.decode s i).1 : Int)).length = 3 := by rw [hv.1]; decide
      rw [hv.2] at hfl hlen
      omega
    · have e := Lib.encode_decode (s.data.toList.drop i) (drop_ne hi) (by rw [hd]; exact hv)
      rw [hd] at e
      exact e
  refine ⟨e, ?_⟩
  rw [e] at h
  have h' := h.trans (List.take_append_drop (Utf8.decode s i).2 (s.data.toList.drop i)).symm
  rw [← List.drop_drop]
  exact List.append_cancel_left h'
/-- A character's bytes have a newline only where it is one. -/
theorem enc_ten (r : Nat) : (r = 10 → Lib.encodeRune (r : Int) = [10]) ∧ (r ≠ 10 → ∀ b ∈ Lib.encodeRune (r : Int), b ≠ 10) := by
  refine ⟨fun h => by subst h; decide, fun h b hb e => ?_⟩
  subst e
  unfold Lib.encodeRune at hb
  obtain ⟨x, hx, hxe⟩ := List.mem_map.1 hb
  obtain ⟨h0, h1⟩ := Lib.encodeRuneZ_byte _ x hx
  have hx10 : x = 10 := by
    have := congrArg UInt8.toNat hxe
    simp at this
    omega
  subst hx10
  unfold Lib.encodeRuneZ at hx
  split at hx
  · simp at hx; omega
  · split at hx
    · simp at hx; omega
    · split at hx
      · simp at hx; omega
      · split at hx
        · simp at hx; omega
        · simp at hx

/-! ### Cut into lines -/
def cutStep (st : List (List UInt8) × List UInt8) (b : UInt8) : List (List UInt8) × List UInt8 := if b = 10 then (st.1 ++ [st.2 ++ [b]], []) else (st.1, st.2 ++ [b])
/-- The lines of a text so far, and what is begun of the next one. -/
def cutS (l : List UInt8) : List (List UInt8) × List UInt8 := l.foldl cutStep ([], [])
/-- The lines of a text, each with its newline. -/
def cutL (l : List UInt8) : List (List UInt8) := (cutS l).1 ++ [(cutS l).2 ++ [10]]
theorem cutS_snoc (l : List UInt8) (b : UInt8) : cutS (l ++ [b]) = cutStep (cutS l) b := by simp [cutS]
theorem cutS_plain (l : List UInt8) : ∀ (c : List UInt8), (∀ b ∈ c, b ≠ 10) → cutS (l ++ c) = ((cutS l).1, (cutS l).2 ++ c) := by
  intro c
  induction c generalizing l with
  | nil => intro _; simp
  | cons b c ih =>
    intro h
    have hb : b ≠ 10 := h b (by simp)
    have := ih (l ++ [b]) (fun x hx => h x (by simp [hx]))
    rw [List.append_assoc, List.singleton_append] at this
    rw [this, cutS_snoc, cutStep, if_neg hb]
    simp
theorem cutS_newline (l : List UInt8) : cutS (l ++ [10]) = ((cutS l).1 ++ [(cutS l).2 ++ [10]], []) := by rw [cutS_snoc, cutStep, if_pos rfl]
/-- What is begun is a text's end. -/
theorem cutS_end (l : List UInt8) : ∃ p, l = p ++ (cutS l).2 ∧ (cutS l).1.length + (cutS l).2.length ≤ l.length ∧ p.length + (cutS l).2.length = l.length := by
  rw [← List.reverse_reverse l]
  induction l.reverse with
  | nil => exact ⟨[], rfl, Nat.le_refl _, rfl⟩
  | cons b r ih =>
    obtain ⟨p, hp, hl, hq⟩ := ih
    rw [List.reverse_cons, cutS_snoc]
    unfold cutStep
    split
    · refine ⟨r.reverse ++ [b], by simp, ?_, by simp⟩
      simp at hl ⊢
      omega
    · refine ⟨p, ?_, ?_, ?_⟩
      · show r.reverse ++ [b] = p ++ ((cutS r.reverse).2 ++ [b])
        rw [← List.append_assoc, ← hp]
      · simp at hl ⊢
        omega
      · simp at hq ⊢
        omega
theorem cutL_len (l : List UInt8) : 1 ≤ (cutL l).length ∧ (cutL l).length ≤ l.length + 1 := by
  obtain ⟨p, hp, hl, hq⟩ := cutS_end l
  unfold cutL
  simp
  omega
end Go.Proofs.YtceepfnjdkfjnaaFmt
