/-
  What spec.Tree asks of a tree, in plain words. No function is walked.
-/
import Derived.Test.YtceepfnjdkfjnaaFmtTree
namespace Go.Proofs.YtceepfnjdkfjnaaFmt

/-- How many nodes are below one of a kind. -/
def belowF (k : Int) : Int × Int :=
  if 1 ≤ k ∧ k ≤ 7 then (0, 0) else if k = 8 ∨ k = 16 ∨ k = 23 ∨ k = 28 ∨ k = 32 ∨ k = 37 then (1, 1) else if k = 9 ∨ k = 14 ∨ k = 15 ∨ k = 39 then (2, 2)
  else if k = 10 then (2, 3) else if k = 13 then (1, 6) else if k = 18 ∨ k = 20 then (0, 6) else (-1, -1)
/-- Which node can stand below another one. -/
def underF (k : Int) (i : Nat) (s : Int) : Prop :=
  if k = 20 then s = 37 ∨ s = 39 else if k = 13 ∧ 0 < i then s = 32 else if k = 39 ∧ i = 0 then s = 4 else s ≠ 37 ∧ s ≠ 39 ∧ s ≠ 32
/-- A node has what its kind has, and no more. -/
def ownF (t : Tr) : Prop :=
  if t.k = 2 then t.tx = ByteArray.empty ∧ t.op = 0 else if t.k = 3 ∨ t.k = 7 ∨ t.k = 16 then t.op = 0 ∧ t.fl = false
  else if t.k = 4 then 0 ≤ t.op ∧ t.op ≤ 4 ∧ t.fl = false else if t.k = 8 then t.tx = ByteArray.empty ∧ 0 ≤ t.op ∧ t.op < 4 ∧ t.fl = false
  else if t.k = 9 then t.tx = ByteArray.empty ∧ 0 ≤ t.op ∧ t.op < 19 ∧ t.fl = false else if t.k = 37 then 0 ≤ t.op ∧ t.op ≤ 2
  else if t.k = 39 then t.tx = ByteArray.empty ∧ 0 ≤ t.op ∧ t.op ≤ 2 else t.tx = ByteArray.empty ∧ t.op = 0 ∧ t.fl = false
/-- What spec.Fits tells. -/
def FitsP : Nat → Tr → Prop
  | 0, _ => False
  | d + 1, t => (belowF t.k).1 ≤ t.subs.length ∧ t.subs.length ≤ (belowF t.k).2 ∧ ownF t ∧ ∀ i s, t.subs[i]? = some s → underF t.k i s.k ∧ FitsP d s

/-- The trees of which something is stated, as expressions. -/
inductive Ok : Tr → Prop
  | null : Ok (.mk 1 ByteArray.empty 0 false [])
  | boolean (fl : Bool) : Ok (.mk 2 ByteArray.empty 0 fl [])
  | number (tx : ByteArray) : Ok (.mk 3 tx 0 false [])
  | str (tx : ByteArray) (op : Int) (h0 : 0 ≤ op) (h4 : op ≤ 4) : Ok (.mk 4 tx op false [])
  | self : Ok (.mk 5 ByteArray.empty 0 false [])
  | dollar : Ok (.mk 6 ByteArray.empty 0 false [])
  | var (tx : ByteArray) : Ok (.mk 7 tx 0 false [])
  | unary (op : Int) (t1 : Tr) (h0 : 0 ≤ op) (h4 : op < 4) (a1 : Ok t1) : Ok (.mk 8 ByteArray.empty op false [t1])
  | binary (op : Int) (t1 t2 : Tr) (h0 : 0 ≤ op) (h4 : op < 19) (a1 : Ok t1) (a2 : Ok t2) : Ok (.mk 9 ByteArray.empty op false [t1, t2])
  | if2 (t1 t2 : Tr) (a1 : Ok t1) (a2 : Ok t2) : Ok (.mk 10 ByteArray.empty 0 false [t1, t2])
  | if3 (t1 t2 t3 : Tr) (a1 : Ok t1) (a2 : Ok t2) (a3 : Ok t3) : Ok (.mk 10 ByteArray.empty 0 false [t1, t2, t3])
  | brace (t1 t2 : Tr) (a1 : Ok t1) (a2 : Ok t2) : Ok (.mk 14 ByteArray.empty 0 false [t1, t2])
  | index (t1 t2 : Tr) (a1 : Ok t1) (a2 : Ok t2) : Ok (.mk 15 ByteArray.empty 0 false [t1, t2])
  | dot (tx : ByteArray) (t1 : Tr) (a1 : Ok t1) : Ok (.mk 16 tx 0 false [t1])
  | error (t1 : Tr) (a1 : Ok t1) : Ok (.mk 23 ByteArray.empty 0 false [t1])
  | parens (t1 : Tr) (a1 : Ok t1) : Ok (.mk 28 ByteArray.empty 0 false [t1])
  | apply (t1 : Tr) (l : List Tr) (hl : l.length ≤ 5) (a1 : Ok t1) (aa : ∀ t ∈ l, Ok t) : Ok (.mk 13 ByteArray.empty 0 false (t1 :: l.map fun t => .mk 32 ByteArray.empty 0 false [t]))
  | array (l : List Tr) (hl : l.length ≤ 6) (aa : ∀ t ∈ l, Ok t) : Ok (.mk 18 ByteArray.empty 0 false l)
  | object (l : List Tr) (hl : l.length ≤ 6) (hf : ∀ s ∈ l, 0 ≤ s.op ∧ s.op ≤ 2 ∧ ((∃ t, s = .mk 37 s.tx s.op s.fl [t]) ∨ ∃ tx o t, (0 ≤ o ∧ o ≤ 4) ∧ s = .mk 39 ByteArray.empty s.op s.fl [.mk 4 tx o false [], t]))
      (aa : ∀ s ∈ l, ∀ u, s.subs.getLast? = some u → Ok u) : Ok (.mk 20 ByteArray.empty 0 false l)

theorem Tr.k_mk (k : Int) (tx : ByteArray) (op : Int) (fl : Bool) (subs : List Tr) : (Tr.mk k tx op fl subs).k = k := rfl
theorem Tr.subs_mk (k : Int) (tx : ByteArray) (op : Int) (fl : Bool) (subs : List Tr) : (Tr.mk k tx op fl subs).subs = subs := rfl
theorem list1 {α : Type} {l : List α} (h : l.length = 1) : ∃ a, l = [a] := by
  match l, h with
  | [a], _ => exact ⟨a, rfl⟩
theorem list2 {α : Type} {l : List α} (h : l.length = 2) : ∃ a b, l = [a, b] := by
  match l, h with
  | [a, b], _ => exact ⟨a, b, rfl⟩
theorem list3 {α : Type} {l : List α} (h : l.length = 3) : ∃ a b c, l = [a, b, c] := by
  match l, h with
  | [a, b, c], _ => exact ⟨a, b, c, rfl⟩

theorem args_of (d : Nat) : ∀ (l : List Tr), (∀ s ∈ l, s.k = 32 ∧ FitsP d s) → (∀ t, (∀ e, e < d → FitsP e t → t.k ≠ 32 → t.k ≠ 37 → t.k ≠ 39 → Ok t)) → ∃ m : List Tr, m.length = l.length ∧ l = m.map (fun t => .mk 32 ByteArray.empty 0 false [t]) ∧ ∀ t ∈ m, Ok t
  | [], _, _ => ⟨[], rfl, rfl, by simp⟩
  | s :: l, h, ih => by
    obtain ⟨m, h1, h2, h3⟩ := args_of d l (fun x hx => h x (by simp [hx])) ih
    obtain ⟨hk, hf⟩ := h s (by simp)
    cases d with
    | zero => exact hf.elim
    | succ d =>
      obtain ⟨f1, f2, f3, f4⟩ := hf
      have hb : belowF s.k = (1, 1) := by rw [hk]; rfl
      rw [hb] at f1 f2
      obtain ⟨t, ht⟩ := list1 (l := s.subs) (by simp at f1 f2; omega)
      have ho : s.tx = ByteArray.empty ∧ s.op = 0 ∧ s.fl = false := by simpa [ownF, hk] using f3
      obtain ⟨u1, u2⟩ := f4 0 t (by rw [ht]; rfl)
      have hu : t.k ≠ 37 ∧ t.k ≠ 39 ∧ t.k ≠ 32 := by simpa [underF, hk] using u1
      refine ⟨t :: m, by simp [h1], ?_, ?_⟩
      · rw [List.map_cons, ← h2, s.eta, hk, ho.1, ho.2.1, ho.2.2, ht]
      · intro x hx
        rcases List.mem_cons.1 hx with rfl | hx
        · exact ih _ d (by omega) u2 hu.2.2 hu.1 hu.2.1
        · exact h3 x hx

theorem fits_ok : ∀ (d : Nat) (t : Tr), FitsP d t → t.k ≠ 32 → t.k ≠ 37 → t.k ≠ 39 → Ok t := by
  intro d
  induction d using Nat.strongRecOn with
  | _ d ih =>
  intro t hf n32 n37 n39
  cases d with
  | zero => exact hf.elim
  | succ d =>
    obtain ⟨f1, f2, f3, f4⟩ := hf
    have kid : ∀ i s, t.subs[i]? = some s → (t.k ≠ 20 ∧ t.k ≠ 13 ∧ t.k ≠ 39) → Ok s := fun i s hs hk => by
      obtain ⟨u1, u2⟩ := f4 i s hs
      have hu : s.k ≠ 37 ∧ s.k ≠ 39 ∧ s.k ≠ 32 := by simpa [underF, hk] using u1
      exact ih d (by omega) s u2 hu.2.2 hu.1 hu.2.1
    have hk : (1 ≤ t.k ∧ t.k ≤ 7) ∨ t.k = 8 ∨ t.k = 16 ∨ t.k = 23 ∨ t.k = 28 ∨ t.k = 9 ∨ t.k = 14 ∨ t.k = 15 ∨ t.k = 10 ∨ t.k = 13 ∨ t.k = 18 ∨ t.k = 20 := by
      apply Classical.byContradiction
      intro hn
      have : belowF t.k = (-1, -1) := by
        unfold belowF
        rw [if_neg (by omega), if_neg (by omega), if_neg (by omega), if_neg (by omega), if_neg (by omega), if_neg (by omega)]
      rw [this] at f2
      simp at f2
      omega
    obtain ⟨k, tx, op, fl, subs⟩ := t
    simp only [Tr.k_mk, Tr.subs_mk] at *
    rcases hk with hk | hk | hk | hk | hk | hk | hk | hk | hk | hk | hk | hk
    · have hb : belowF k = (0, 0) := by unfold belowF; rw [if_pos hk]
      rw [hb] at f2
      obtain rfl : subs = [] := List.eq_nil_of_length_eq_zero (by have h0 : (subs.length : Int) ≤ 0 := f2; omega)
      obtain rfl | rfl | rfl | rfl | rfl | rfl | rfl : k = 1 ∨ k = 2 ∨ k = 3 ∨ k = 4 ∨ k = 5 ∨ k = 6 ∨ k = 7 := by omega
      all_goals simp [ownF, Tr.k, Tr.tx, Tr.op, Tr.fl] at f3
      · obtain ⟨rfl, rfl, rfl⟩ := f3; exact .null
      · obtain ⟨rfl, rfl⟩ := f3; exact .boolean fl
      · obtain ⟨rfl, rfl⟩ := f3; exact .number tx
      · obtain ⟨h0, h4, rfl⟩ := f3; exact .str tx op h0 h4
      · obtain ⟨rfl, rfl, rfl⟩ := f3; exact .self
      · obtain ⟨rfl, rfl, rfl⟩ := f3; exact .dollar
      · obtain ⟨rfl, rfl⟩ := f3; exact .var tx
    all_goals subst hk
    · obtain ⟨t1, rfl⟩ := list1 (l := subs) (by simp [belowF] at f1 f2; omega)
      simp [ownF, Tr.k, Tr.tx, Tr.op, Tr.fl] at f3
      obtain ⟨rfl, h0, h4, rfl⟩ := f3
      exact .unary op t1 h0 h4 (kid 0 t1 rfl (by decide))
    · obtain ⟨t1, rfl⟩ := list1 (l := subs) (by simp [belowF] at f1 f2; omega)
      simp [ownF, Tr.k, Tr.op, Tr.fl] at f3
      obtain ⟨rfl, rfl⟩ := f3
      exact .dot tx t1 (kid 0 t1 rfl (by decide))
    · obtain ⟨t1, rfl⟩ := list1 (l := subs) (by simp [belowF] at f1 f2; omega)
      simp [ownF, Tr.k, Tr.tx, Tr.op, Tr.fl] at f3
      obtain ⟨rfl, rfl, rfl⟩ := f3
      exact .error t1 (kid 0 t1 rfl (by decide))
    · obtain ⟨t1, rfl⟩ := list1 (l := subs) (by simp [belowF] at f1 f2; omega)
      simp [ownF, Tr.k, Tr.tx, Tr.op, Tr.fl] at f3
      obtain ⟨rfl, rfl, rfl⟩ := f3
      exact .parens t1 (kid 0 t1 rfl (by decide))
    · obtain ⟨t1, t2, rfl⟩ := list2 (l := subs) (by simp [belowF] at f1 f2; omega)
      simp [ownF, Tr.k, Tr.tx, Tr.op, Tr.fl] at f3
      obtain ⟨rfl, h0, h4, rfl⟩ := f3
      exact .binary op t1 t2 h0 h4 (kid 0 t1 rfl (by decide)) (kid 1 t2 rfl (by decide))
    · obtain ⟨t1, t2, rfl⟩ := list2 (l := subs) (by simp [belowF] at f1 f2; omega)
      simp [ownF, Tr.k, Tr.tx, Tr.op, Tr.fl] at f3
      obtain ⟨rfl, rfl, rfl⟩ := f3
      exact .brace t1 t2 (kid 0 t1 rfl (by decide)) (kid 1 t2 rfl (by decide))
    · obtain ⟨t1, t2, rfl⟩ := list2 (l := subs) (by simp [belowF] at f1 f2; omega)
      simp [ownF, Tr.k, Tr.tx, Tr.op, Tr.fl] at f3
      obtain ⟨rfl, rfl, rfl⟩ := f3
      exact .index t1 t2 (kid 0 t1 rfl (by decide)) (kid 1 t2 rfl (by decide))
    · simp [ownF, Tr.k, Tr.tx, Tr.op, Tr.fl] at f3
      obtain ⟨rfl, rfl, rfl⟩ := f3
      have hl : subs.length = 2 ∨ subs.length = 3 := by simp [belowF] at f1 f2; omega
      rcases hl with hl | hl
      · obtain ⟨t1, t2, rfl⟩ := list2 hl
        exact .if2 t1 t2 (kid 0 t1 rfl (by decide)) (kid 1 t2 rfl (by decide))
      · obtain ⟨t1, t2, t3, rfl⟩ := list3 hl
        exact .if3 t1 t2 t3 (kid 0 t1 rfl (by decide)) (kid 1 t2 rfl (by decide)) (kid 2 t3 rfl (by decide))
    · simp [ownF, Tr.k, Tr.tx, Tr.op, Tr.fl] at f3
      obtain ⟨rfl, rfl, rfl⟩ := f3
      have hl : 1 ≤ subs.length ∧ subs.length ≤ 6 := by simp [belowF] at f1 f2; omega
      match subs, hl, f4 with
      | t1 :: rest, hl, f4 =>
        obtain ⟨u1, u2⟩ := f4 0 t1 rfl
        have hu : t1.k ≠ 37 ∧ t1.k ≠ 39 ∧ t1.k ≠ 32 := by simpa [underF] using u1
        obtain ⟨m, h1, h2, h3⟩ := args_of d rest (fun s hs => by
          obtain ⟨i, hi⟩ := List.getElem?_of_mem hs
          obtain ⟨v1, v2⟩ := f4 (i + 1) s (by simpa using hi)
          exact ⟨by simpa [underF] using v1, v2⟩) (fun x e he hfe a b c => ih e (by omega) x hfe a b c)
        rw [h2]
        exact .apply t1 m (by simp at hl; omega) (ih d (by omega) t1 u2 hu.2.2 hu.1 hu.2.1) h3
    · simp [ownF, Tr.k, Tr.tx, Tr.op, Tr.fl] at f3
      obtain ⟨rfl, rfl, rfl⟩ := f3
      exact .array subs (by simp [belowF] at f2; omega) (fun x hx => by
        obtain ⟨i, hi⟩ := List.getElem?_of_mem hx
        exact kid i x hi (by decide))
    · simp [ownF, Tr.k, Tr.tx, Tr.op, Tr.fl] at f3
      obtain ⟨rfl, rfl, rfl⟩ := f3
      have fld : ∀ s ∈ subs, (0 ≤ s.op ∧ s.op ≤ 2 ∧ ((∃ t, s = .mk 37 s.tx s.op s.fl [t]) ∨ ∃ tx o t, (0 ≤ o ∧ o ≤ 4) ∧ s = .mk 39 ByteArray.empty s.op s.fl [.mk 4 tx o false [], t])) ∧ ∀ u, s.subs.getLast? = some u → Ok u := by
        intro s hs
        obtain ⟨i, hi⟩ := List.getElem?_of_mem hs
        obtain ⟨v1, v2⟩ := f4 i s hi
        have hk : s.k = 37 ∨ s.k = 39 := by simpa [underF] using v1
        cases d with
        | zero => exact v2.elim
        | succ d =>
          obtain ⟨g1, g2, g3, g4⟩ := v2
          rcases hk with hk | hk
          · rw [hk] at g1 g2
            obtain ⟨t, ht⟩ := list1 (l := s.subs) (by simp [belowF] at g1 g2; omega)
            have ho : 0 ≤ s.op ∧ s.op ≤ 2 := by simpa [ownF, hk] using g3
            obtain ⟨u1, u2⟩ := g4 0 t (by rw [ht]; rfl)
            have hu : t.k ≠ 37 ∧ t.k ≠ 39 ∧ t.k ≠ 32 := by simpa [underF, hk] using u1
            refine ⟨⟨ho.1, ho.2, .inl ⟨t, by rw [← hk, ← ht]; exact s.eta⟩⟩, fun u hu' => ?_⟩
            rw [ht] at hu'
            obtain rfl : t = u := by simpa using hu'
            exact ih d (by omega) _ u2 hu.2.2 hu.1 hu.2.1
          · rw [hk] at g1 g2
            obtain ⟨t1, t2, ht⟩ := list2 (l := s.subs) (by simp [belowF] at g1 g2; omega)
            have ho : s.tx = ByteArray.empty ∧ 0 ≤ s.op ∧ s.op ≤ 2 := by simpa [ownF, hk] using g3
            obtain ⟨u1, u2⟩ := g4 0 t1 (by rw [ht]; rfl)
            obtain ⟨w1, w2⟩ := g4 1 t2 (by rw [ht]; rfl)
            have hu1 : t1.k = 4 := by simpa [underF, hk] using u1
            have hu2 : t2.k ≠ 37 ∧ t2.k ≠ 39 ∧ t2.k ≠ 32 := by simpa [underF, hk] using w1
            have ok1 := ih d (by omega) t1 u2 (by omega) (by omega) (by omega)
            have ok2 := ih d (by omega) t2 w2 hu2.2.2 hu2.1 hu2.2.1
            have e1 : ∃ tx o, (0 ≤ o ∧ o ≤ 4) ∧ t1 = .mk 4 tx o false [] := by
              cases ok1 <;> simp [Tr.k] at hu1
              rename_i tx o h0 h4
              exact ⟨tx, o, ⟨h0, h4⟩, rfl⟩
            obtain ⟨tx, o, h04, rfl⟩ := e1
            refine ⟨⟨ho.2.1, ho.2.2, .inr ⟨tx, o, t2, h04, by rw [← ho.1, ← hk, ← ht]; exact s.eta⟩⟩, fun u hu' => ?_⟩
            rw [ht] at hu'
            obtain rfl : t2 = u := by simpa using hu'
            exact ok2
      exact .object subs (by simp [belowF] at f2; omega) (fun s hs => (fld s hs).1) (fun s hs => (fld s hs).2)
end Go.Proofs.YtceepfnjdkfjnaaFmt
