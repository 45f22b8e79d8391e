/-
  Names in order: what is put in and taken out keeps them in order, and a list of names in order is known by what is in it. No program in it.
-/
import Derived.Sort.Walk0
namespace Go.Proofs.Ytceepfnjdkfjnaa

section
variable {α : Type} {lt : α → α → Bool}
/-- A total order, as the walk meets it. -/
structure Ord3 (lt : α → α → Bool) : Prop where
  irrefl : ∀ x, lt x x = false
  trans : ∀ x y z, lt x y = true → lt y z = true → lt x z = true
  total : ∀ x y, lt x y = true ∨ x = y ∨ lt y x = true
/-- In order, each once. -/
def InOrder (lt : α → α → Bool) (l : List α) : Prop := l.Pairwise fun x y => lt x y = true
/-- How many names stand ahead of one. -/
def aheadOf (lt : α → α → Bool) (n : α) : List α → Nat
  | [] => 0
  | x :: l => if lt x n then aheadOf lt n l + 1 else 0
theorem ahead_le (n : α) : ∀ l : List α, aheadOf lt n l ≤ l.length
  | [] => Nat.le_refl _
  | x :: l => by
    unfold aheadOf
    split
    · have := ahead_le n l
      simp; omega
    · omega
/-- Those ahead are less. -/
theorem ahead_lt (n : α) : ∀ (l : List α), ∀ x ∈ l.take (aheadOf lt n l), lt x n = true
  | [], x, h => by simp at h
  | y :: l, x, h => by
    unfold aheadOf at h
    split at h
    · rename_i hy
      rw [List.take_succ_cons] at h
      rcases List.mem_cons.1 h with rfl | h
      · exact hy
      · exact ahead_lt n l x h
    · simp at h
/-- The next one is not less. -/
theorem ahead_next (n : α) : ∀ (l : List α) (x : α), l[aheadOf lt n l]? = some x → lt x n = false
  | [], x, h => by simp at h
  | y :: l, x, h => by
    unfold aheadOf at h
    split at h
    · rw [List.getElem?_cons_succ] at h
      exact ahead_next n l x h
    · rename_i hy
      simp at h
      subst h
      simpa using hy
theorem ahead_mem (O : Ord3 lt) (n : α) : ∀ {l : List α}, InOrder lt l → (n ∈ l ↔ l[aheadOf lt n l]? = some n)
  | [], _ => by simp
  | y :: l, h => by
    obtain ⟨h1, h2⟩ := List.pairwise_cons.1 h
    unfold aheadOf
    split
    · rename_i hy
      rw [List.getElem?_cons_succ, ← ahead_mem O n h2]
      constructor
      · intro hm
        rcases List.mem_cons.1 hm with rfl | hm
        · rw [O.irrefl] at hy; cases hy
        · exact hm
      · exact fun hm => List.mem_cons_of_mem _ hm
    · rename_i hy
      simp
      constructor
      · rintro (rfl | hm)
        · rfl
        · exact absurd (h1 n hm) hy
      · rintro rfl
        exact .inl rfl
/-- What is next where a name is put in or not, and taken out or not. -/
def nextOf [DecidableEq α] (lt : α → α → Bool) (put : Bool) (n : α) (l : List α) : List α :=
  l.take (aheadOf lt n l) ++ (if put then [n] else []) ++ (if l[aheadOf lt n l]? = some n then l.drop (aheadOf lt n l + 1) else l.drop (aheadOf lt n l))
theorem tail_gt [DecidableEq α] (O : Ord3 lt) (n : α) {l : List α} (h : InOrder lt l) : ∀ x ∈ (if l[aheadOf lt n l]? = some n then l.drop (aheadOf lt n l + 1) else l.drop (aheadOf lt n l)), lt n x = true := by
  have hd : InOrder lt (l.drop (aheadOf lt n l)) := h.sublist (List.drop_sublist _ _)
  have key : ∀ y rest, l.drop (aheadOf lt n l) = y :: rest → l[aheadOf lt n l]? = some y := fun y rest e => by
    have := congrArg (fun m => m[0]?) e
    simpa using this
  intro x hx
  split at hx
  · rename_i he
    cases hl : l.drop (aheadOf lt n l) with
    | nil =>
      rw [← List.drop_drop, hl] at hx
      simp at hx
    | cons y rest =>
      have hy := key y rest hl
      rw [he] at hy
      obtain rfl : n = y := by simpa using hy
      rw [← List.drop_drop, hl] at hx
      rw [hl] at hd
      exact (List.pairwise_cons.1 hd).1 x (by simpa using hx)
  · rename_i he
    cases hl : l.drop (aheadOf lt n l) with
    | nil => rw [hl] at hx; simp at hx
    | cons y rest =>
      have hy := key y rest hl
      have hf := ahead_next n l y hy
      have hyn : lt n y = true := by
        rcases O.total y n with h1 | h1 | h1
        · rw [hf] at h1; cases h1
        · subst h1; exact absurd hy he
        · exact h1
      rw [hl] at hx hd
      rcases List.mem_cons.1 hx with rfl | hx
      · exact hyn
      · exact O.trans _ _ _ hyn ((List.pairwise_cons.1 hd).1 x hx)
theorem next_order [DecidableEq α] (O : Ord3 lt) (put : Bool) (n : α) {l : List α} (h : InOrder lt l) : InOrder lt (nextOf lt put n l) := by
  have ht := tail_gt O n h
  have h1 : InOrder lt (l.take (aheadOf lt n l)) := h.sublist (List.take_sublist _ _)
  have h2 : InOrder lt (if l[aheadOf lt n l]? = some n then l.drop (aheadOf lt n l + 1) else l.drop (aheadOf lt n l)) := by
    split
    · exact h.sublist (List.drop_sublist _ _)
    · exact h.sublist (List.drop_sublist _ _)
  have hlt := ahead_lt (lt := lt) n l
  unfold nextOf
  refine List.pairwise_append.2 ⟨List.pairwise_append.2 ⟨h1, ?_, fun x hx y hy => ?_⟩, h2, fun x hx y hy => ?_⟩
  · split <;> simp
  · split at hy
    · obtain rfl : y = n := by simpa using hy
      exact hlt x hx
    · simp at hy
  · rcases List.mem_append.1 hx with hx | hx
    · exact O.trans _ _ _ (hlt x hx) (ht y hy)
    · split at hx
      · obtain rfl : x = n := by simpa using hx
        exact ht y hy
      · simp at hx
theorem next_mem [DecidableEq α] (O : Ord3 lt) (put : Bool) (n : α) {l : List α} (h : InOrder lt l) (x : α) : x ∈ nextOf lt put n l ↔ (x = n ∧ put = true) ∨ (x ≠ n ∧ x ∈ l) := by
  have ht := tail_gt O n h
  have hlt := ahead_lt (lt := lt) n l
  have hne1 : ∀ y ∈ l.take (aheadOf lt n l), y ≠ n := fun y hy e => by
    have := hlt y hy
    rw [e, O.irrefl] at this
    cases this
  have hne2 : ∀ y ∈ (if l[aheadOf lt n l]? = some n then l.drop (aheadOf lt n l + 1) else l.drop (aheadOf lt n l)), y ≠ n := fun y hy e => by
    have := ht y hy
    rw [e, O.irrefl] at this
    cases this
  unfold nextOf
  rw [List.mem_append, List.mem_append]
  constructor
  · rintro ((hx | hx) | hx)
    · exact .inr ⟨hne1 x hx, List.mem_of_mem_take hx⟩
    · cases put with
      | true => exact .inl ⟨by simpa using hx, rfl⟩
      | false => simp at hx
    · refine .inr ⟨hne2 x hx, ?_⟩
      split at hx
      · exact List.mem_of_mem_drop hx
      · exact List.mem_of_mem_drop hx
  · rintro (⟨rfl, rfl⟩ | ⟨hx, hm⟩)
    · exact .inl (.inr (by simp))
    · rw [← List.take_append_drop (aheadOf lt n l) l] at hm
      rcases List.mem_append.1 hm with hm | hm
      · exact .inl (.inl hm)
      · right
        split
        · rename_i he
          cases hl : l.drop (aheadOf lt n l) with
          | nil => rw [hl] at hm; simp at hm
          | cons y rest =>
            have hy : l[aheadOf lt n l]? = some y := by
              have := congrArg (fun m => m[0]?) hl
              simpa using this
            rw [he] at hy
            obtain rfl : n = y := by simpa using hy
            rw [hl] at hm
            rcases List.mem_cons.1 hm with rfl | hm
            · exact absurd rfl hx
            · rw [← List.drop_drop, hl]
              simpa using hm
        · exact hm
/-- Names in order are known by what is in them. -/
theorem order_unique (O : Ord3 lt) : ∀ {l m : List α}, InOrder lt l → InOrder lt m → (∀ x, x ∈ l ↔ x ∈ m) → l = m
  | [], [], _, _, _ => rfl
  | [], y :: m, _, _, h => by have := (h y).2 (by simp); simp at this
  | x :: l, [], _, _, h => by have := (h x).1 (by simp); simp at this
  | x :: l, y :: m, hl, hm, h => by
    obtain ⟨h1, h2⟩ := List.pairwise_cons.1 hl
    obtain ⟨h3, h4⟩ := List.pairwise_cons.1 hm
    have e : x = y := by
      rcases List.mem_cons.1 ((h x).1 (by simp)) with e | hx
      · exact e
      · rcases List.mem_cons.1 ((h y).2 (by simp)) with e | hy
        · exact e.symm
        · have := O.trans _ _ _ (h3 x hx) (h1 y hy)
          rw [O.irrefl] at this
          cases this
    subst e
    congr 1
    refine order_unique O h2 h4 fun z => ?_
    constructor
    · intro hz
      rcases List.mem_cons.1 ((h z).1 (List.mem_cons_of_mem _ hz)) with e | hz'
      · subst e
        have := h1 z hz
        rw [O.irrefl] at this
        cases this
      · exact hz'
    · intro hz
      rcases List.mem_cons.1 ((h z).2 (List.mem_cons_of_mem _ hz)) with e | hz'
      · subst e
        have := h3 z hz
        rw [O.irrefl] at this
        cases this
      · exact hz'
end
/-- Texts, byte by byte. -/
theorem ord_bytes : Ord3 Op.bytesLess where
  irrefl := by
    intro x
    induction x with
    | nil => rfl
    | cons a x ih => simp [Op.bytesLess, ih]
  trans := by
    intro x
    induction x with
    | nil =>
      intro y z h1 h2
      cases y with
      | nil => simp [Op.bytesLess] at h1
      | cons b y => cases z with
        | nil => simp [Op.bytesLess] at h2
        | cons c z => rfl
    | cons a x ih =>
      intro y z h1 h2
      cases y with
      | nil => simp [Op.bytesLess] at h1
      | cons b y => cases z with
        | nil => simp [Op.bytesLess] at h2
        | cons c z =>
          simp [Op.bytesLess] at h1 h2 ⊢
          rcases h1 with h1 | ⟨rfl, h1⟩
          · rcases h2 with h2 | ⟨rfl, h2⟩
            · exact .inl (UInt8.lt_trans h1 h2)
            · exact .inl h1
          · rcases h2 with h2 | ⟨rfl, h2⟩
            · exact .inl h2
            · exact .inr ⟨rfl, ih y z h1 h2⟩
  total := by
    intro x
    induction x with
    | nil => intro y; cases y with
      | nil => exact .inr (.inl rfl)
      | cons b y => exact .inl rfl
    | cons a x ih =>
      intro y
      cases y with
      | nil => exact .inr (.inr rfl)
      | cons b y =>
        simp [Op.bytesLess]
        rcases UInt8.lt_or_lt_of_ne (a := a) (b := b) |> fun f => (Decidable.em (a = b)).elim (fun e => Or.inl e) (fun e => Or.inr (f e)) with rfl | h | h
        · rcases ih y with h | rfl | h
          · exact .inl (.inr ⟨rfl, h⟩)
          · exact .inr (.inl ⟨rfl, rfl⟩)
          · exact .inr (.inr (.inr ⟨rfl, h⟩))
        · exact .inl (.inl h)
        · exact .inr (.inr (.inl h))
end Go.Proofs.Ytceepfnjdkfjnaa
