/-
  Trees of nodes in memory: what they are, and that they stay where memory that they do not lie in is written. Plain words on worlds; no function is walked.
-/
import Derived.Test.YtceepfnjdkfjnaaFmtKit
import Derived.ChangeMaps5
import Derived.SliceStrings
import Derived.LoopTactic
import Derived.OwnWalk
import Derived.Deep.AppendLies
import Derived.Deep.RegionHeldLaw
import Derived.Deep.RegionLaw
import Derived.Deep.RegionLawGrows
namespace Go.Proofs.YtceepfnjdkfjnaaFmt
open Go.ChangeShapes Go.WideShapes Go.ChangeAt Go.RowKit Go.Joins

/-- A tree: what its root is, its text, its number, its mark, and what is below it. -/
inductive Tr where
  | mk (k : Int) (tx : ByteArray) (op : Int) (fl : Bool) (subs : List Tr)
def Tr.k : Tr → Int | .mk k _ _ _ _ => k
def Tr.tx : Tr → ByteArray | .mk _ x _ _ _ => x
def Tr.op : Tr → Int | .mk _ _ o _ _ => o
def Tr.fl : Tr → Bool | .mk _ _ _ f _ => f
def Tr.subs : Tr → List Tr | .mk _ _ _ _ s => s
theorem Tr.eta (t : Tr) : t = .mk t.k t.tx t.op t.fl t.subs := by cases t; rfl
theorem Tr.ext_ {s t : Tr} (h1 : s.k = t.k) (h2 : s.tx = t.tx) (h3 : s.op = t.op) (h4 : s.fl = t.fl) (h5 : s.subs = t.subs) : s = t := by
  rw [s.eta, t.eta, h1, h2, h3, h4, h5]
theorem Tr.ind {P : Tr → Prop} (h : ∀ t, (∀ s ∈ t.subs, P s) → P t) (t : Tr) : P t :=
  Tr.rec (motive_1 := P) (motive_2 := fun l => ∀ s ∈ l, P s) (fun _ _ _ _ _ ih => h _ ih) (fun _ h => by cases h) (fun _ _ ha hl => by simpa using ⟨ha, hl⟩) t

/-- No list in a tree is longer than M. -/
inductive Bnd (M : Nat) : Tr → Prop
  | mk (t : Tr) (h : t.subs.length ≤ M) (hr : ∀ s ∈ t.subs, Bnd M s) : Bnd M t
theorem Bnd.len {M : Nat} {t : Tr} (h : Bnd M t) : t.subs.length ≤ M := by cases h; assumption
theorem Bnd.sub {M : Nat} {t : Tr} (h : Bnd M t) : ∀ s ∈ t.subs, Bnd M s := by cases h; assumption

/-- The five cells of a node. -/
def nV (t : Tr) (u : Value) : List Value := [.int .i64 t.k, .string t.tx, .int .i64 t.op, .bool t.fl, u]
theorem nV5 (t : Tr) (u : Value) : (nV t u).length = 5 := rfl
/-- A slice of nodes that lies in blocks of S. -/
inductive Subs (w : World) (S : Nat → Prop) : List Tr → Value → Prop
  | none (a : Option Addr) (cap : Nat) : Subs w S [] (.slice a 0 cap)
  | row (l : List Tr) (b off cap : Nat) (us : Nat → Value) (hl : 0 < l.length) (hcap : l.length ≤ cap) (hb : S b)
      (hc : ∀ i t, l[i]? = some t → ∀ j c, (nV t (us i))[j]? = some c → w.cell? ⟨b, off + (i * 5 + j), .none⟩ = some c)
      (hr : ∀ i t, l[i]? = some t → Subs w S t.subs (us i)) : Subs w S l (.slice (some ⟨b, off, .none⟩) l.length cap)
theorem Subs.keep {w w' : World} {S T : Nat → Prop} {l : List Tr} {v : Value} (h : Subs w S l v) (hT : ∀ k, S k → k < w.heap.size → T k) (hb : ∀ k, S k → k < w.heap.size → w'.heap[k]? = w.heap[k]?) : Subs w' T l v := by
  induction h with
  | none a cap => exact .none a cap
  | row l b off cap us hl hcap hS hc hr ih =>
    have hlt : b < w.heap.size := by
      obtain ⟨t, ht⟩ : ∃ t, l[0]? = some t := ⟨_, List.getElem?_eq_getElem hl⟩
      exact World.block_lt_of_cell? w _ (hc 0 t ht 0 _ rfl)
    exact .row l b off cap us hl hcap (hT _ hS hlt) (fun i t hi j c hj => (World.cell?_of_block (w := w) (hb b hS hlt)).trans (hc i t hi j c hj)) ih
theorem Subs.bel {w w' : World} {S : Nat → Prop} {l : List Tr} {v : Value} (h : Subs w S l v) (hb : Below w.heap.size w w') : Subs w' S l v := h.keep (fun _ h _ => h) (fun k _ hk => hb.block k hk)
theorem Subs.mono {w : World} {S T : Nat → Prop} {l : List Tr} {v : Value} (h : Subs w S l v) (hT : ∀ k, S k → k < w.heap.size → T k) : Subs w T l v := h.keep hT (fun _ _ _ => rfl)
theorem Subs.form {w : World} {S : Nat → Prop} {l : List Tr} {v : Value} (h : Subs w S l v) : ∃ a cap, v = .slice a l.length cap ∧ l.length ≤ cap := by
  cases h with
  | none a cap => exact ⟨a, cap, rfl, Nat.zero_le _⟩
  | row _ b off cap us hl hcap => exact ⟨_, cap, rfl, hcap⟩
theorem Subs.oneCell {w : World} {S : Nat → Prop} {l : List Tr} {v : Value} (h : Subs w S l v) : v.oneCell' = true := by
  obtain ⟨a, cap, rfl, _⟩ := h.form
  rfl
/-- The node at a place. -/
theorem Subs.at_ {w : World} {S : Nat → Prop} {l : List Tr} {a : Option Addr} {n cap : Nat} (h : Subs w S l (.slice a n cap)) {i : Nat} {t : Tr} (ht : l[i]? = some t) :
    ∃ b off u, a = some ⟨b, off, .none⟩ ∧ S b ∧ b < w.heap.size ∧ Subs w S t.subs u ∧ w.cell? ⟨b, off + i * 5, .none⟩ = some (.int .i64 t.k) ∧ w.cell? ⟨b, off + i * 5 + 1, .none⟩ = some (.string t.tx) ∧
      w.cell? ⟨b, off + i * 5 + 2, .none⟩ = some (.int .i64 t.op) ∧ w.cell? ⟨b, off + i * 5 + 3, .none⟩ = some (.bool t.fl) ∧ w.cell? ⟨b, off + i * 5 + 4, .none⟩ = some u := by
  cases h with
  | none a cap => simp at ht
  | row _ b off cap us hl hcap hS hc hr =>
    have h0 := hc i t ht 0 _ rfl
    exact ⟨b, off, us i, rfl, hS, World.block_lt_of_cell? w _ h0, hr i t ht, h0, hc i t ht 1 _ rfl, hc i t ht 2 _ rfl, hc i t ht 3 _ rfl, hc i t ht 4 _ rfl⟩

/-- The cells of nodes in a row. -/
def CellsT (w : World) (S : Nat → Prop) : List Tr → List Value → Prop
  | [], xs => xs = []
  | t :: ts, xs => ∃ u ys, Subs w S t.subs u ∧ CellsT w S ts ys ∧ xs = nV t u ++ ys
theorem CellsT.keep {w w' : World} {S T : Nat → Prop} (hT : ∀ k, S k → k < w.heap.size → T k) (hb : ∀ k, S k → k < w.heap.size → w'.heap[k]? = w.heap[k]?) : ∀ {l : List Tr} {xs : List Value}, CellsT w S l xs → CellsT w' T l xs
  | [], _, h => h
  | _ :: _, _, ⟨u, ys, hc, hr, e⟩ => ⟨u, ys, hc.keep hT hb, CellsT.keep hT hb hr, e⟩
theorem CellsT.below {w w' : World} {S : Nat → Prop} {l : List Tr} {xs : List Value} (h : CellsT w S l xs) (hb : Below w.heap.size w w') : CellsT w' S l xs := h.keep (fun _ h _ => h) (fun k _ hk => hb.block k hk)
theorem CellsT.append {w : World} {S : Nat → Prop} : ∀ {ps : List Tr} {xs : List Value} {qs : List Tr} {ys : List Value}, CellsT w S ps xs → CellsT w S qs ys → CellsT w S (ps ++ qs) (xs ++ ys)
  | [], xs, qs, ys, h, h' => by
    have e : xs = [] := h
    subst e
    exact h'
  | p :: ps, xs, qs, ys, ⟨u, zs, hc, hr, e⟩, h' => ⟨u, zs ++ ys, hc, hr.append h', by rw [e, List.append_assoc]⟩
theorem CellsT.one {w : World} {S : Nat → Prop} {t : Tr} {u : Value} (hc : Subs w S t.subs u) : CellsT w S [t] (nV t u) := ⟨u, [], hc, rfl, by simp⟩
theorem CellsT.snoc {w : World} {S : Nat → Prop} {ps : List Tr} {xs : List Value} {t : Tr} {u : Value} (h : CellsT w S ps xs) (hc : Subs w S t.subs u) : CellsT w S (ps ++ [t]) (xs ++ nV t u) := h.append (.one hc)
theorem CellsT.length {w : World} {S : Nat → Prop} : ∀ {ps : List Tr} {xs : List Value}, CellsT w S ps xs → xs.length = ps.length * 5
  | [], _, h => by
    have e : _ = [] := h
    subst e
    rfl
  | _ :: ps, xs, ⟨u, ys, hc, hr, e⟩ => by
    subst e
    rw [List.length_append, nV5, CellsT.length hr, List.length_cons]
    omega
theorem CellsT.at_ {w : World} {S : Nat → Prop} : ∀ {ps : List Tr} {xs : List Value}, CellsT w S ps xs → ∀ (i : Nat), ∃ u, ∀ t, ps[i]? = some t → Subs w S t.subs u ∧ ∀ j c, (nV t u)[j]? = some c → xs[i * 5 + j]? = some c
  | [], _, _, i => ⟨.slice none 0 0, fun t h => by simp at h⟩
  | q :: ps, xs, ⟨u, ys, hc, hr, e⟩, i => by
    subst e
    cases i with
    | zero =>
      refine ⟨u, fun t ht => ?_⟩
      obtain rfl : q = t := by simpa using ht
      refine ⟨hc, fun j c hj => ?_⟩
      have hl : j < (nV q u).length := (List.getElem?_eq_some_iff.1 hj).1
      rw [show 0 * 5 + j = j by omega, List.getElem?_append_left hl, hj]
    | succ i =>
      obtain ⟨u', h'⟩ := CellsT.at_ hr i
      refine ⟨u', fun t ht => ?_⟩
      obtain ⟨h1, h2⟩ := h' t (by simpa using ht)
      refine ⟨h1, fun j c hj => ?_⟩
      rw [List.getElem?_append_right (by rw [nV5]; omega), nV5, show (i + 1) * 5 + j - 5 = i * 5 + j by omega]
      exact h2 j c hj
/-- Cells that lie in a block are a slice of nodes. -/
theorem CellsT.subs {w : World} {S : Nat → Prop} {ts : List Tr} {xs : List Value} (h : CellsT w S ts xs) {b off cap : Nat} (hcell : ∀ j c, xs[j]? = some c → w.cell? ⟨b, off + j, none⟩ = some c) (hcap : ts.length ≤ cap) (hb : S b) : Subs w S ts (.slice (some ⟨b, off, none⟩) ts.length cap) := by
  rcases Nat.eq_zero_or_pos ts.length with h0 | h0
  · obtain rfl := List.eq_nil_of_length_eq_zero h0
    exact .none _ _
  · exact .row ts b off cap (fun i => Classical.choose (h.at_ i)) h0 hcap hb (fun i t ht j c hj => hcell _ c ((Classical.choose_spec (h.at_ i) t ht).2 j c hj)) (fun i t ht => (Classical.choose_spec (h.at_ i) t ht).1)

/-- A slice of nodes that the call owns: its row lies from base on; what is below its nodes lies in S, and not in the row. -/
def OwnT (S : Nat → Prop) (base : Nat) (ty : TypeId) (w : World) (v : Value) (ts : List Tr) : Prop :=
  ∃ xs, w.ownsRow base ty 5 v ts.length xs ∧ CellsT w (fun k => S k ∧ v.ownBlock ≠ some k) ts xs
theorem OwnT.subs {S : Nat → Prop} {base : Nat} {ty : TypeId} {w : World} {v : Value} {ts : List Tr} (h : OwnT S base ty w v ts) {T : Nat → Prop} (hT : ∀ k, S k ∨ v.ownBlock = some k → T k) : Subs w T ts v := by
  obtain ⟨xs, ho, hc⟩ := h
  have hc' : CellsT w T ts xs := hc.keep (fun k h _ => hT k (.inl h.1)) (fun _ _ _ => rfl)
  rcases Nat.eq_zero_or_pos ts.length with h0 | h0
  · obtain rfl := List.eq_nil_of_length_eq_zero h0
    rcases ho.2 with ⟨rfl, _⟩ | ⟨g, cap, cur, rfl, _⟩
    · exact .none _ _
    · exact .none _ _
  · have hcap := ho.2
    obtain ⟨g, cap, rfl, _, hlt⟩ := ho.form h0
    have hle : ts.length ≤ cap := by
      rcases hcap with ⟨h, _⟩ | ⟨g', cap', cur, h, _, _, hle, _⟩
      · cases h
      · injection h with _ _ h3
        omega
    refine hc'.subs (fun j c hj => ?_) hle (hT g (.inr rfl))
    have := ho.cells (g := g) rfl j c hj
    have hadd : (⟨g, 0, none⟩ : Addr).add j = ⟨g, 0 + j, none⟩ := by unfold Addr.add; split <;> simp_all
    rwa [hadd] at this
theorem ownsRow_keep {w w' : World} {base : Nat} {t : TypeId} {n : Nat} {v : Value} {m : Nat} {xs : List Value} (h : w.ownsRow base t n v m xs) (hb : ∀ b, v.ownBlock = some b → w'.heap[b]? = w.heap[b]?) : w'.ownsRow base t n v m xs := by
  refine ⟨h.1, ?_⟩
  rcases h.2 with h2 | ⟨g, cap, cur, rfl, hg, hh, r⟩
  · exact .inl h2
  · exact .inr ⟨g, cap, cur, rfl, hg, (hb g rfl).trans hh, r⟩
theorem ownsRow_below {w w' : World} {base : Nat} {t : TypeId} {n : Nat} {v : Value} {m : Nat} {xs : List Value} (h : w.ownsRow base t n v m xs) (hb : Below w.heap.size w w') : w'.ownsRow base t n v m xs := by
  refine ⟨h.1, ?_⟩
  rcases h.2 with h2 | ⟨g, cap, cur, rfl, hg, hh, r⟩
  · exact .inl h2
  · have hlt : g < w.heap.size := by
      rcases Nat.lt_or_ge g w.heap.size with hlt | hge
      · exact hlt
      · rw [Array.getElem?_eq_none hge] at hh; cases hh
    exact .inr ⟨g, cap, cur, rfl, hg, (hb.block g hlt).trans hh, r⟩
/-- One node more: what is below it lies in S already, and not in the row. -/
theorem OwnT.push {S : Nat → Prop} {base : Nat} {ty : TypeId} {w w' : World} {v u : Value} {ts : List Tr} {t : Tr} {xs : List Value} {g m cap : Nat} (hc : CellsT w (fun k => S k ∧ v.ownBlock ≠ some k) ts xs) (hu : Subs w (fun k => S k ∧ v.ownBlock ≠ some k) t.subs u)
    (ho' : w'.ownsRow base ty 5 (.slice (some ⟨g, 0, none⟩) m cap) m (xs ++ nV t u)) (hm : m = ts.length + 1) (hgrow : w.grownBy w' v.ownBlock) (hat : v.ownBlock = some g ∨ g = w.heap.size) : OwnT S base ty w' (.slice (some ⟨g, 0, none⟩) m cap) (ts ++ [t]) := by
  have hc2 : CellsT w' (fun k => S k ∧ (Value.slice (some ⟨g, 0, none⟩) m cap).ownBlock ≠ some k) (ts ++ [t]) (xs ++ nV t u) := (hc.snoc hu).keep (fun k hk hlt => ⟨hk.1, fun e => by
      obtain rfl : g = k := by simpa [Value.ownBlock] using e
      rcases hat with h | h
      · exact hk.2 h
      · omega⟩) (fun k hk hlt => hgrow.block k hlt (fun e => hk.2 e.symm))
  refine ⟨_, ?_, hc2⟩
  rw [List.length_append, List.length_singleton, ← hm]
  exact ho'
theorem OwnT.below {S : Nat → Prop} {base : Nat} {ty : TypeId} {w w' : World} {v : Value} {ts : List Tr} (h : OwnT S base ty w v ts) (hb : Below w.heap.size w w') : OwnT S base ty w' v ts := by
  obtain ⟨xs, ho, hc⟩ := h
  exact ⟨xs, ownsRow_below ho hb, hc.below hb⟩
theorem OwnT.keep {S : Nat → Prop} {base : Nat} {ty : TypeId} {w w' : World} {v : Value} {ts : List Tr} (h : OwnT S base ty w v ts) (hb : ∀ k, S k ∨ v.ownBlock = some k → k < w.heap.size → w'.heap[k]? = w.heap[k]?) : OwnT S base ty w' v ts := by
  obtain ⟨xs, ho, hc⟩ := h
  refine ⟨xs, ownsRow_keep ho (fun b hv => hb b (.inr hv) (ho.lt b hv).2), hc.keep (fun _ h _ => h) (fun k hk hlt => hb k (.inl hk.1) hlt)⟩
theorem OwnT.form {S : Nat → Prop} {base : Nat} {ty : TypeId} {w : World} {v : Value} {ts : List Tr} (h : OwnT S base ty w v ts) : ∃ a cap, v = .slice a ts.length cap := by
  obtain ⟨xs, ho, hc⟩ := h
  rcases ho.2 with ⟨rfl, h0⟩ | ⟨g, cap, cur, rfl, _⟩
  · exact ⟨none, 0, by rw [h0]⟩
  · exact ⟨_, cap, rfl⟩
theorem cell_of {w : World} {b j : Nat} {cs : Array Value} {t : TypeId} {v : Value} (h : w.heap[b]? = some (.cells cs t)) (hv : cs[j]? = some v) : w.cell? ⟨b, j, none⟩ = some v := (cell_of_row _ _ j _ _ _ h).trans hv
theorem heap_set5 {w : World} {g k : Nat} {a b c d e : Value} (h : k ≠ g) : (((((w.setCell ⟨g, 0, none⟩ a).setCell ⟨g, 1, none⟩ b).setCell ⟨g, 2, none⟩ c).setCell ⟨g, 3, none⟩ d).setCell ⟨g, 4, none⟩ e).heap[k]? = w.heap[k]? :=
  (Below.heap_setCell _ _ _ _ h).trans ((Below.heap_setCell _ _ _ _ h).trans ((Below.heap_setCell _ _ _ _ h).trans ((Below.heap_setCell _ _ _ _ h).trans (Below.heap_setCell _ _ _ _ h))))
theorem below_set5 {B g : Nat} {w w' : World} {a b c d e : Value} (h : Below B w w') (hg : B ≤ g) : Below B w (((((w'.setCell ⟨g, 0, none⟩ a).setCell ⟨g, 1, none⟩ b).setCell ⟨g, 2, none⟩ c).setCell ⟨g, 3, none⟩ d).setCell ⟨g, 4, none⟩ e) :=
  ((((h.setCell hg _).setCell hg _).setCell hg _).setCell hg _).setCell hg _
theorem hasRow_cells {w : World} {g n : Nat} {cs : Array Value} {t : TypeId} (h : w.heap[g]? = some (.cells cs t)) (hn : n = cs.size) : HasRow g n w :=
  hasRow_of (fun j hj => by
    have : cs[j]? = some (cs[j]'(by omega)) := Array.getElem?_eq_getElem (by omega)
    rw [cell_of h this]; rfl) (fun j => unfrozen_of_block h j)
theorem nV_one {w : World} {S : Nat → Prop} {t : Tr} {u : Value} (h : Subs w S t.subs u) : ∀ c ∈ nV t u, c.oneCell' = true := by
  have := h.oneCell
  intro c hc
  simp only [nV, List.mem_cons, List.not_mem_nil, or_false] at hc
  rcases hc with rfl | rfl | rfl | rfl | rfl <;> first | rfl | assumption
theorem ownT_empty {S : Nat → Prop} {base : Nat} {t : TypeId} {w : World} {g : Nat} (hb : base ≤ g) (hg : w.heap[g]? = some (.cells #[] t)) : OwnT S base t w (.slice (some ⟨g, 0, none⟩) 0 0) [] :=
  ⟨[], ⟨rfl, .inr ⟨g, 0, #[], rfl, hb, hg, Nat.le_refl _, by unfold maxLen; omega, rfl, rfl⟩⟩, rfl⟩
theorem ownT_nil {S : Nat → Prop} {base : Nat} {t : TypeId} {w : World} : OwnT S base t w (.slice none 0 0) [] :=
  ⟨[], ⟨rfl, .inl ⟨rfl, rfl⟩⟩, rfl⟩
/-- The five cells that a node laid into a new block. -/
theorem news5 {w : World} {c0 c1 c2 c3 c4 : Value} {t : TypeId} {l : List Value} (hl : l = [c0, c1, c2, c3, c4]) : ∀ j u, l[j]? = some u → (w.alloc (.cells #[c0, c1, c2, c3, c4] t)).cell? ((⟨w.heap.size, 0, none⟩ : Addr).add j) = some u := by
  subst hl
  exact World.news_of_block (heap_alloc_new w _)
theorem take_snoc {α : Type} {l : List α} {j : Nat} {p : α} (h : l[j]? = some p) : l.take (j + 1) = l.take j ++ [p] := by
  rw [List.take_add_one, h]; rfl
end Go.Proofs.YtceepfnjdkfjnaaFmt
