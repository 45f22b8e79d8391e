/-
  What a copy of a tree is: it lies in new memory, but for names. Conditions: none.
-/
import Derived.Test.YtceepfnjdkfjnaaFmtCloneBase
import Derived.Deep.MidRow
namespace Go.Proofs.YtceepfnjdkfjnaaFmt
open Go.ChangeShapes Go.WideShapes Go.ChangeAt Go.RowKit Go.Joins

/-- The old blocks of a tree, and new ones. -/
abbrev Widened (w : World) (S : Nat → Prop) : Nat → Prop := fun k => w.heap.size ≤ k ∨ (S k ∧ k < w.heap.size)
/-- What ast.clone leaves: the cell that it was given leads to a copy; nothing else that was there has turned. -/
def Cloned (w : World) (S : Nat → Prop) (c j : Nat) (cs : Array Value) (T : TypeId) (t : Tr) (y : TypeId) (e : Ending) (w' : World) : Prop :=
  e = .returned (.tuple #[]) ∧ ∃ b', w'.heap[c]? = some (.cells (cs.setIfInBounds j (.iface y (.pointer (some ⟨b', 0, none⟩)))) T) ∧ w.grownBy w' (some c) ∧ Ast w' (Widened w S) t y b'
/-- ast.clone's contract at a tree. -/
def CloneOk (t : Tr) : Prop := ∀ (w : World) (S : Nat → Prop) (y : TypeId) (b c j : Nat) (cs : Array Value) (T : TypeId), Ast w S t y b → ¬ S c → w.heap[c]? = some (.cells cs T) → cs[j]? = some (.iface y (.pointer (some ⟨b, 0, none⟩))) →
    Calls Tryf.prog 39 #[.pointer (some ⟨c, j, none⟩)] w fun e w' => Cloned w S c j cs T t y e w'

/-- On the way: the copy's block holds some cells; the cell that was given leads to it. -/
structure Mid (w : World) (c j : Nat) (cs : Array Value) (T : TypeId) (y : TypeId) (CS : Array Value) (TU : TypeId) (w2 : World) : Prop where
  row : w2.heap[w.heap.size]? = some (.cells CS TU)
  cell : w2.heap[c]? = some (.cells (cs.setIfInBounds j (.iface y (.pointer (some ⟨w.heap.size, 0, none⟩)))) T)
  grown : w.grownBy w2 (some c)
  old : c < w.heap.size
theorem Mid.size {w w2 : World} {c j : Nat} {cs CS : Array Value} {T y TU : TypeId} (h : Mid w c j cs T y CS TU w2) : w.heap.size < w2.heap.size := heap_lt h.row
theorem Mid.at_ {w w2 : World} {c j : Nat} {cs CS : Array Value} {T y TU : TypeId} (h : Mid w c j cs T y CS TU w2) (hj : j < cs.size) : w2.cell? ⟨c, j, none⟩ = some (.iface y (.pointer (some ⟨w.heap.size, 0, none⟩))) :=
  cell_of h.cell (by simp [hj])
/-- What lay in the tree lies there. -/
theorem Mid.ast {w w2 : World} {c j : Nat} {cs CS : Array Value} {T y TU : TypeId} (h : Mid w c j cs T y CS TU w2) {S : Nat → Prop} {t : Tr} {y1 : TypeId} {b1 : Nat} (ha : Ast w S t y1 b1) (hc : ¬ S c) : Ast w2 (fun k => S k ∧ k < w.heap.size) t y1 b1 :=
  ha.keep (fun _ hk hl => ⟨hk, hl⟩) (fun k hk hl => h.grown.block k hl (fun e => hc (by injection e with e; exact e ▸ hk)))
/-- A part of the copy has been made. -/
theorem Mid.step {w w2 w3 : World} {c j i : Nat} {cs CS : Array Value} {T y TU : TypeId} (h : Mid w c j cs T y CS TU w2) {v : Value} (h3 : w3.heap[w.heap.size]? = some (.cells (CS.setIfInBounds i v) TU)) (hg : w2.grownBy w3 (some w.heap.size)) : Mid w c j cs T y (CS.setIfInBounds i v) TU w3 :=
  ⟨h3, (hg.block c (heap_lt h.cell) (fun e => by have := h.old; injection e with e; omega)).trans h.cell, ⟨hg.os.trans h.grown.os, hg.tape.trans h.grown.tape, hg.output.trans h.grown.output, Nat.le_trans h.grown.size hg.size, fun k hk hn => (hg.block k (Nat.lt_of_lt_of_le hk h.grown.size) (fun e => by injection e with e; omega)).trans (h.grown.block k hk hn)⟩, h.old⟩
/-- What has been made keeps while the copy's own block is written. -/
theorem ast_far {w2 w3 : World} {r : Nat} {S : Nat → Prop} {t : Tr} {y : TypeId} {b : Nat} (ha : Ast w2 S t y b) (hg : w2.grownBy w3 (some r)) (hr : ¬ S r) : Ast w3 (fun k => S k ∧ k < w2.heap.size) t y b :=
  ha.keep (fun _ hk hl => ⟨hk, hl⟩) (fun k hk hl => hg.block k hl (fun e => hr (by injection e with e; exact e ▸ hk)))

/-! ### new, and the copy of all cells -/
theorem put_all {w : World} {r : Nat} {zs : Array Value} {TU : TypeId} (CS : Array Value) (h : w.heap[r]? = some (.cells zs TU)) (hs : zs.size = CS.size) : (w.setCells r 0 CS.toList).heap[r]? = some (.cells CS TU) ∧ w.grownBy (w.setCells r 0 CS.toList) (some r) := by
  have key : ∀ (l : List Value) (o : Nat) (w : World) (zs : Array Value), w.heap[r]? = some (.cells zs TU) → o + l.length ≤ zs.size →
      (∃ ys : Array Value, (w.setCells r o l).heap[r]? = some (.cells ys TU) ∧ ys.size = zs.size ∧ (∀ i, i < o → ys[i]? = zs[i]?) ∧ (∀ i, i < l.length → ys[o + i]? = l[i]?) ∧ (∀ i, o + l.length ≤ i → ys[i]? = zs[i]?)) ∧ w.grownBy (w.setCells r o l) (some r) := by
    intro l
    induction l with
    | nil => intro o w zs hz _; exact ⟨⟨zs, hz, rfl, fun _ _ => rfl, fun i hi => absurd hi (by simp), fun _ _ => rfl⟩, ⟨rfl, rfl, rfl, Nat.le_refl _, fun _ _ _ => rfl⟩⟩
    | cons v l ih =>
      intro o w zs hz hl
      have h1 : (w.setCell ⟨r, o, none⟩ v).heap[r]? = some (.cells (zs.setIfInBounds o v) TU) := set_same hz
      obtain ⟨⟨ys, h2, h3, h4, h5, h6⟩, hg⟩ := ih (o + 1) (w.setCell ⟨r, o, none⟩ v) _ h1 (by simp at hl ⊢; omega)
      refine ⟨⟨ys, h2, by simpa using h3, fun i hi => ?_, fun i hi => ?_, fun i hi => ?_⟩, grown_then (grown_set _ _ _ _) hg⟩
      · rw [h4 i (by omega), Array.getElem?_setIfInBounds_ne (by omega)]
      · cases i with
        | zero =>
          rw [Nat.add_zero, h4 o (by omega)]
          simp at hl
          simp [show o < zs.size by omega]
        | succ i =>
          have := h5 i (by simpa using hi)
          rw [show o + (i + 1) = o + 1 + i by omega, this]
          rfl
      · rw [h6 i (by simp at hi; omega), Array.getElem?_setIfInBounds_ne (by simp at hi; omega)]
  obtain ⟨⟨ys, h2, h3, _, h5, _⟩, hg⟩ := key CS.toList 0 w zs h (by simp [hs])
  have e : ys = CS := by
    apply Array.ext_getElem?
    intro i
    by_cases hi : i < CS.size
    · have := h5 i (by simpa using hi)
      simpa using this
    · rw [Array.getElem?_eq_none (by omega), Array.getElem?_eq_none (by omega)]
  rw [e] at h2
  exact ⟨h2, hg⟩
/-- The copy's block has been made, and the cell leads to it. -/
theorem begin_copy {w : World} {b c j : Nat} {CS cs zs : Array Value} {TU T y : TypeId} (hb : w.heap[b]? = some (.cells CS TU)) (hc : w.heap[c]? = some (.cells cs T)) (hbc : b ≠ c) (hs : zs.size = CS.size) :
    ((w.setCell ⟨c, j, none⟩ (.iface y (.pointer (some ⟨w.heap.size, 0, none⟩)))).alloc (.cells zs TU)).rangeAt b 0 CS.toList ∧
    ((w.setCell ⟨c, j, none⟩ (.iface y (.pointer (some ⟨w.heap.size, 0, none⟩)))).alloc (.cells zs TU)).there w.heap.size 0 CS.size ∧
    Mid w c j cs T y CS TU (((w.setCell ⟨c, j, none⟩ (.iface y (.pointer (some ⟨w.heap.size, 0, none⟩)))).alloc (.cells zs TU)).setCells w.heap.size 0 CS.toList) := by
  have hcl := heap_lt hc
  have hbl := heap_lt hb
  have b1 : ((w.setCell ⟨c, j, none⟩ (.iface y (.pointer (some ⟨w.heap.size, 0, none⟩)))).alloc (.cells zs TU)).heap[b]? = some (.cells CS TU) := bk_alloc (bk_set hbc hb)
  have r1 : ((w.setCell ⟨c, j, none⟩ (.iface y (.pointer (some ⟨w.heap.size, 0, none⟩)))).alloc (.cells zs TU)).heap[w.heap.size]? = some (.cells zs TU) := by
    have := heap_alloc_new (w.setCell ⟨c, j, none⟩ (.iface y (.pointer (some ⟨w.heap.size, 0, none⟩)))) (.cells zs TU)
    rwa [show (w.setCell ⟨c, j, none⟩ (.iface y (.pointer (some ⟨w.heap.size, 0, none⟩)))).heap.size = w.heap.size from by simp [World.setCell]] at this
  have c1 : ((w.setCell ⟨c, j, none⟩ (.iface y (.pointer (some ⟨w.heap.size, 0, none⟩)))).alloc (.cells zs TU)).heap[c]? = some (.cells (cs.setIfInBounds j (.iface y (.pointer (some ⟨w.heap.size, 0, none⟩)))) T) := bk_alloc (set_same hc)
  obtain ⟨p1, p2⟩ := put_all CS r1 hs
  refine ⟨fun i v hv => ?_, fun i hi => ⟨?_, ?_⟩, p1, ?_, ?_, hcl⟩
  · rw [Nat.zero_add]
    exact cell_of b1 (by simpa using hv)
  · rw [Nat.zero_add]
    have : zs[i]? = some (zs[i]'(by omega)) := Array.getElem?_eq_getElem (by omega)
    rw [cell_of r1 this]; rfl
  · exact unfrozen_of_block r1 _
  · exact (p2.block c (by simp; omega) (fun e => by injection e with e; omega)).trans c1
  · refine ⟨p2.os, p2.tape, p2.output, by have := p2.size; simp at this; omega, fun k hk hn => ?_⟩
    rw [p2.block k (by simp; omega) (fun e => by injection e with e; omega)]
    rw [Below.heap_alloc _ _ k (by simp [World.setCell]; omega)]
    exact Below.heap_setCell _ _ _ _ (fun e => hn (by rw [e]))
/-- The end: the free variables are an empty list of the copy's own. -/
theorem Mid.last {w w2 w3 : World} {c j o : Nat} {cs CS : Array Value} {T y TU : TypeId} (h : Mid w c j cs T y CS TU w2) (h3 : ∃ g n, w3.heap[w.heap.size]? = some (.cells (CS.setIfInBounds o (.slice g 0 n)) TU)) (hg : w2.grownBy w3 (some w.heap.size)) :
    ∃ g n, Mid w c j cs T y (CS.setIfInBounds o (.slice g 0 n)) TU w3 := by
  obtain ⟨g, n, h3⟩ := h3
  exact ⟨g, n, h.step h3 hg⟩
set_option maxRecDepth 100000 in
theorem clone_nil {w : World} {c j : Nat} {cs : Array Value} {T : TypeId} (hc : w.heap[c]? = some (.cells cs T)) (hj : cs[j]? = some .nilIface) : Calls Tryf.prog 39 #[.pointer (some ⟨c, j, none⟩)] w fun e w' => e = .returned (.tuple #[]) ∧ w = w' := by
  have q := cell_of hc hj
  clear hc hj
  go_enter Tryf.func39, Tryf.ntmps39
  go_wp2
  refine bodyPost_ret (results_none rfl _ _ _) rfl ?_
  exact ⟨rfl, rfl⟩

theorem begin_mid {w : World} {c j : Nat} {CS cs : Array Value} {TU T y : TypeId} (hc : w.heap[c]? = some (.cells cs T)) :
    Mid w c j cs T y CS TU ((w.setCell ⟨c, j, none⟩ (.iface y (.pointer (some ⟨w.heap.size, 0, none⟩)))).alloc (.cells CS TU)) := by
  have hcl := heap_lt hc
  refine ⟨?_, bk_alloc (set_same hc), ⟨rfl, rfl, rfl, by simp [World.setCell], fun k hk hn => ?_⟩, hcl⟩
  · have := heap_alloc_new (w.setCell ⟨c, j, none⟩ (.iface y (.pointer (some ⟨w.heap.size, 0, none⟩)))) (.cells CS TU)
    rwa [show (w.setCell ⟨c, j, none⟩ (.iface y (.pointer (some ⟨w.heap.size, 0, none⟩)))).heap.size = w.heap.size from by simp [World.setCell]] at this
  · rw [Below.heap_alloc _ _ k (by simp [World.setCell]; omega)]
    exact Below.heap_setCell _ _ _ _ (fun e => hn (by rw [e]))
/-- Where a part of the copy lies. -/
def Sub (w : World) (S1 : Nat → Prop) (lo hi : Nat) : Nat → Prop := fun k => (lo ≤ k ∧ k < hi) ∨ (S1 k ∧ k < w.heap.size)
theorem sub_in {w : World} {S S1 : Nat → Prop} {b lo hi : Nat} (hlo : w.heap.size < lo) (s1 : ∀ k, S1 k → S k ∧ k ≠ b) : ∀ k, Sub w S1 lo hi k → Widened w S k ∧ k ≠ w.heap.size := fun k h => by
  rcases h with ⟨h1, _⟩ | ⟨h1, h2⟩
  · exact ⟨.inl (by omega), by omega⟩
  · exact ⟨.inr ⟨(s1 k h1).1, h2⟩, by omega⟩
theorem sub_in3 {w : World} {S S1 : Nat → Prop} {b i lo hi : Nat} (hlo : w.heap.size < lo) (hil : i < w.heap.size) (s1 : ∀ k, S1 k → S k ∧ k ≠ b ∧ k ≠ i) : ∀ k, Sub w S1 lo hi k → Widened w S k ∧ k ≠ w.heap.size ∧ k ≠ i := fun k h => by
  rcases h with ⟨h1, _⟩ | ⟨h1, h2⟩
  · exact ⟨.inl (by omega), by omega, by omega⟩
  · exact ⟨.inr ⟨(s1 k h1).1, h2⟩, by omega, (s1 k h1).2.2⟩
theorem sub_apart {w : World} {S1 S2 : Nat → Prop} {lo hi lo' hi' : Nat} (d : ∀ k, S1 k → ¬ S2 k) (h1 : hi ≤ lo') (h2 : w.heap.size ≤ lo) (h3 : w.heap.size ≤ lo') : ∀ k, Sub w S1 lo hi k → ¬ Sub w S2 lo' hi' k := fun k h h' => by
  rcases h with ⟨a1, a2⟩ | ⟨a1, a2⟩
  · rcases h' with ⟨b1, b2⟩ | ⟨b1, b2⟩ <;> omega
  · rcases h' with ⟨b1, b2⟩ | ⟨b1, b2⟩
    · omega
    · exact d k a1 b1
theorem cloned_sub {w w2 w3 : World} {S1 : Nat → Prop} {t : Tr} {y : TypeId} {b : Nat} (ha : Ast w3 (Widened w2 (fun k => S1 k ∧ k < w.heap.size)) t y b) : Ast w3 (Sub w S1 w2.heap.size w3.heap.size) t y b :=
  ha.mono fun k hk hl => by
    rcases hk with h | h
    · exact .inl ⟨h, hl⟩
    · exact .inr h.1
theorem sub_far {w w3 w4 : World} {S1 : Nat → Prop} {lo hi : Nat} {t : Tr} {y : TypeId} {b : Nat} (ha : Ast w3 (Sub w S1 lo hi) t y b) (hg : w3.grownBy w4 (some w.heap.size)) (hlo : w.heap.size < lo) : Ast w4 (Sub w S1 lo hi) t y b :=
  ha.keep (fun _ hk _ => hk) (fun k hk hl => hg.block k hl (fun e => by
    injection e with e
    rcases hk with h | h <;> omega))
/-- A cell of the copy is written behind a call that made new memory. -/
theorem mid_put {w w2 w3 : World} {c j : Nat} {cs CS : Array Value} {T y TU : TypeId} (h : Mid w c j cs T y CS TU w2) (hb : Below w2.heap.size w2 w3) (i : Nat) (v : Value) : Mid w c j cs T y (CS.setIfInBounds i v) TU (w3.setCell ⟨w.heap.size, i, none⟩ v) :=
  h.step (set_same ((hb.block _ h.size).trans h.row)) (grown_then ⟨hb.os, hb.tape, hb.output, hb.size, fun k hk _ => hb.block k hk⟩ (grown_set _ _ _ _))
end Go.Proofs.YtceepfnjdkfjnaaFmt
