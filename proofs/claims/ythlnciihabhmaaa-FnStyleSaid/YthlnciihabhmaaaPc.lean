/-
  Lists of pieces in memory: what they are, and that they stay where memory that they do not lie in is written. Plain words on worlds; no function is walked.
-/
import Derived.Test.YthlnciihabhmaaaElem
namespace Go.Proofs.Ythlnciihabhmaaa
open Go.ChangeShapes Go.WideShapes Go.ChangeAt Go.RowKit Go.Joins

/-- A piece. -/
structure Pc where
  k : Int
  bl : Int
  ind : Int
  ss : List ByteArray

/-- The four cells of a piece, and of an element. -/
def pV (p : Pc) (u : Value) : List Value := [.int .i64 p.k, .int .i64 p.bl, .int .i64 p.ind, u]
def eV (p : Pc) (u : Value) : List Value := [u, .int .i64 p.k, .int .i64 p.bl, .int .i64 p.ind]

/-- What has been written: nothing outside S. -/
structure Only (S : Nat → Prop) (w w' : World) : Prop where
  os : w'.os = w.os
  tape : w'.tape = w.tape
  output : w'.output = w.output
  size : w.heap.size ≤ w'.heap.size
  block : ∀ k, k < w.heap.size → ¬ S k → w'.heap[k]? = w.heap[k]?
theorem Only.refl (S : Nat → Prop) (w : World) : Only S w w := ⟨rfl, rfl, rfl, Nat.le_refl _, fun _ _ _ => rfl⟩
theorem Only.trans {S : Nat → Prop} {a b c : World} (h : Only S a b) (k : Only S b c) : Only S a c :=
  ⟨k.os.trans h.os, k.tape.trans h.tape, k.output.trans h.output, Nat.le_trans h.size k.size, fun i hi hn => (k.block i (Nat.lt_of_lt_of_le hi h.size) hn).trans (h.block i hi hn)⟩
/-- What is not there at the start may be written later. -/
theorem Only.then {S T : Nat → Prop} {a b c : World} (h : Only S a b) (k : Only T b c) (hT : ∀ i, i < a.heap.size → T i → S i) : Only S a c :=
  ⟨k.os.trans h.os, k.tape.trans h.tape, k.output.trans h.output, Nat.le_trans h.size k.size, fun i hi hn => (k.block i (Nat.lt_of_lt_of_le hi h.size) (fun ht => hn (hT i hi ht))).trans (h.block i hi hn)⟩
theorem Only.mono {S T : Nat → Prop} {a b : World} (h : Only S a b) (hT : ∀ i, S i → T i) : Only T a b :=
  ⟨h.os, h.tape, h.output, h.size, fun i hi hn => h.block i hi (fun hs => hn (hT i hs))⟩
theorem Only.of_below {S : Nat → Prop} {a b : World} (h : Below a.heap.size a b) : Only S a b := ⟨h.os, h.tape, h.output, h.size, fun i hi _ => h.block i hi⟩
theorem Only.step {S : Nat → Prop} {a b c : World} (h : Only S a b) (k : Below b.heap.size b c) : Only S a c := h.trans (.of_below k)
theorem Only.drew {S : Nat → Prop} {a b : World} (h : Only S a b) : Only S a b.drew := h.step (Below.refl b.heap.size b).drew
theorem Only.alloc {S : Nat → Prop} {a b : World} (h : Only S a b) (o : Obj) : Only S a (b.alloc o) := h.step (below_alloc1 b o)
theorem Only.set {S : Nat → Prop} {a b : World} (h : Only S a b) {p : Addr} (hp : a.heap.size ≤ p.block ∨ S p.block) (u : Value) : Only S a (b.setCell p u) :=
  h.then (T := fun i => i = p.block) ⟨rfl, rfl, rfl, by simp [World.setCell], fun k _ hn => Below.heap_setCell _ _ _ _ hn⟩ (by
    rintro i hi rfl
    rcases hp with hp | hp
    · omega
    · exact hp)
theorem Only.grown {S : Nat → Prop} {a b c : World} {row : Option Nat} (h : Only S a b) (hg : b.grownBy c row) (hr : ∀ k, row = some k → a.heap.size ≤ k ∨ S k) : Only S a c :=
  h.then (T := fun i => some i = row) ⟨hg.os, hg.tape, hg.output, hg.size, fun k hk hn => hg.block k hk hn⟩ (by
    intro i hi e
    rcases hr i e.symm with hr | hr
    · omega
    · exact hr)
theorem Only.below {S : Nat → Prop} {a b : World} {B : Nat} (h : Only S a b) (hB : B ≤ a.heap.size) (hS : ∀ k, S k → B ≤ k) : Below B a b :=
  ⟨h.os, h.tape, h.output, h.size, fun k hk => h.block k (by omega) (fun hs => by have := hS k hs; omega)⟩
theorem Only.cell {S : Nat → Prop} {w w' : World} (h : Only S w w') {p : Addr} (hp : p.block < w.heap.size) (hS : ¬ S p.block) : w'.cell? p = w.cell? p := World.cell?_of_block (w := w) (h.block p.block hp hS)
theorem Only.frozen {S : Nat → Prop} {w w' : World} (h : Only S w w') {p : Addr} (hp : p.block < w.heap.size) (hS : ¬ S p.block) : w'.frozen? p = w.frozen? p := World.frozen?_of_block (w := w) (h.block p.block hp hS)

/-- A comment lies in no block of X. -/
def Far (X : Nat → Prop) (u : Value) (ss : List ByteArray) : Prop := 0 < ss.length → ∀ b, u.ownBlock = some b → ¬ X b
theorem Far.nil (X : Nat → Prop) (u : Value) : Far X u [] := fun h => by simp at h
theorem Far.no (u : Value) (ss : List ByteArray) : Far (fun _ => False) u ss := fun _ _ _ h => h
theorem Far.mono {X Y : Nat → Prop} {u : Value} {ss : List ByteArray} (h : Far X u ss) (hY : ∀ b, Y b → X b) : Far Y u ss := fun h0 b hb hy => h h0 b hb (hY b hy)
theorem Comm.only {S : Nat → Prop} {w w' : World} {v : Value} {ss : List ByteArray} (h : Comm w v ss) (hb : Only S w w') (hf : ∀ b, v.ownBlock = some b → 0 < ss.length → ¬ S b) : Comm w' v ss := by
  rcases h with h | ⟨h0, b, off, cap, rfl, hlt, hc⟩
  · exact .inl h
  · exact .inr ⟨h0, b, off, cap, rfl, Nat.lt_of_lt_of_le hlt hb.size, fun i s hi => (hb.cell (p := ⟨b, off + i, none⟩) hlt (hf b rfl h0)).trans (hc i s hi)⟩
theorem Comm.lt {w : World} {v : Value} {ss : List ByteArray} (h : Comm w v ss) (h0 : 0 < ss.length) : ∃ b, v.ownBlock = some b ∧ b < w.heap.size := by
  rcases h with ⟨rfl, _⟩ | ⟨_, b, off, cap, rfl, hlt, _⟩
  · simp at h0
  · exact ⟨b, rfl, hlt⟩
theorem Comm.far_new {w : World} {v : Value} {ss : List ByteArray} (h : Comm w v ss) {X : Nat → Prop} (hX : ∀ b, X b → w.heap.size ≤ b) : Far X v ss := fun h0 b hb hx => by
  obtain ⟨b', hb', hlt⟩ := h.lt h0
  rw [hb'] at hb
  injection hb with hb
  have := hX b hx
  omega
theorem Comm.far_add {w : World} {v : Value} {ss : List ByteArray} (h : Comm w v ss) {X Y : Nat → Prop} (hf : Far X v ss) (hY : ∀ b, Y b → X b ∨ w.heap.size ≤ b) : Far Y v ss := fun h0 b hb hy => by
  rcases hY b hy with hx | hx
  · exact hf h0 b hb hx
  · exact h.far_new (X := fun b => w.heap.size ≤ b) (fun _ h => h) h0 b hb hx
theorem Comm.oneCell {w : World} {v : Value} {ss : List ByteArray} (h : Comm w v ss) : v.oneCell' = true := by
  obtain ⟨a, cap, rfl⟩ := h.form
  rfl
theorem Comm.nil (w : World) (a : Option Addr) (cap : Nat) : Comm w (.slice a 0 cap) [] := .inl ⟨rfl, a, cap, rfl⟩

/-- The cells of pieces in a row; their comments lie outside X. -/
def Cells (f : Pc → Value → List Value) (X : Nat → Prop) (w : World) : List Pc → List Value → Prop
  | [], xs => xs = []
  | p :: ps, xs => ∃ u ys, Comm w u p.ss ∧ Far X u p.ss ∧ Cells f X w ps ys ∧ xs = f p u ++ ys

section
variable {f : Pc → Value → List Value} {X Y : Nat → Prop} {w w' : World}
theorem Cells.only2 {S : Nat → Prop} (hY : ∀ b, Y b → X b ∨ w.heap.size ≤ b) (hb : Only S w w') (hS : ∀ b, S b → b < w.heap.size → X b) : ∀ {ps : List Pc} {xs : List Value}, Cells f X w ps xs → Cells f Y w' ps xs
  | [], _, h => h
  | p :: ps, xs, ⟨u, ys, hc, hf, hr, e⟩ => ⟨u, ys, hc.only hb (fun b hu h0 hs => by
      obtain ⟨b', hb', hlt⟩ := hc.lt h0
      have e := hu
      rw [hb'] at e
      injection e with e
      subst e
      exact hf h0 _ hu (hS _ hs hlt)), hc.far_add hf hY, Cells.only2 hY hb hS hr, e⟩
theorem Cells.only {S : Nat → Prop} (hb : Only S w w') (hS : ∀ b, S b → b < w.heap.size → X b) {ps : List Pc} {xs : List Value} (h : Cells f X w ps xs) : Cells f X w' ps xs := h.only2 (fun _ h => .inl h) hb hS
theorem Cells.below (hb : Below w.heap.size w w') {ps : List Pc} {xs : List Value} (h : Cells f X w ps xs) : Cells f X w' ps xs :=
  h.only (S := fun _ => False) (.of_below hb) (fun _ h => h.elim)
theorem Cells.far (hY : ∀ b, Y b → X b ∨ w.heap.size ≤ b) {ps : List Pc} {xs : List Value} (h : Cells f X w ps xs) : Cells f Y w ps xs := h.only2 hY (S := fun _ => False) (Only.refl _ w) (fun _ h => h.elim)
theorem Cells.far_new (hY : ∀ b, Y b → w.heap.size ≤ b) {ps : List Pc} {xs : List Value} (h : Cells f X w ps xs) : Cells f Y w ps xs := h.far fun b hb => .inr (hY b hb)
theorem Cells.far_none {ps : List Pc} {xs : List Value} (h : Cells f X w ps xs) : Cells f (fun _ => False) w ps xs := h.far fun _ h => h.elim
theorem Cells.append : ∀ {ps : List Pc} {xs : List Value} {qs : List Pc} {ys : List Value}, Cells f X w ps xs → Cells f X w qs ys → Cells f X w (ps ++ qs) (xs ++ ys)
  | [], xs, qs, ys, h, h' => by
    have e : xs = [] := h
    subst e
    exact h'
  | p :: ps, xs, qs, ys, ⟨u, zs, hc, hf, hr, e⟩, h' => ⟨u, zs ++ ys, hc, hf, hr.append h', by rw [e, List.append_assoc]⟩
theorem Cells.one {p : Pc} {u : Value} (hc : Comm w u p.ss) (hf : Far X u p.ss) : Cells f X w [p] (f p u) := ⟨u, [], hc, hf, rfl, by simp⟩
theorem Cells.snoc {ps : List Pc} {xs : List Value} {p : Pc} {u : Value} (h : Cells f X w ps xs) (hc : Comm w u p.ss) (hf : Far X u p.ss) : Cells f X w (ps ++ [p]) (xs ++ f p u) := h.append (.one hc hf)
/-- The piece at a place. -/
theorem Cells.at_ (hf4 : ∀ p u, (f p u).length = 4) : ∀ {ps : List Pc} {xs : List Value}, Cells f X w ps xs → ∀ (i : Nat) (p : Pc), ps[i]? = some p → ∃ u, Comm w u p.ss ∧ Far X u p.ss ∧ ∀ j c, (f p u)[j]? = some c → xs[i * 4 + j]? = some c
  | [], _, _, i, p, hp => by simp at hp
  | q :: ps, xs, ⟨u, ys, hc, hf, hr, e⟩, i, p, hp => by
    subst e
    cases i with
    | zero =>
      have hp' : q = p := by simpa using hp
      subst hp'
      refine ⟨u, hc, hf, fun j c hj => ?_⟩
      have hl : j < (f q u).length := (List.getElem?_eq_some_iff.1 hj).1
      rw [show 0 * 4 + j = j by omega, List.getElem?_append_left hl, hj]
    | succ i =>
      obtain ⟨u', hc', hf', h'⟩ := Cells.at_ hf4 hr i p (by simpa using hp)
      refine ⟨u', hc', hf', fun j c hj => ?_⟩
      rw [List.getElem?_append_right (by rw [hf4]; omega), hf4, show (i + 1) * 4 + j - 4 = i * 4 + j by omega]
      exact h' j c hj
theorem Cells.length (hf4 : ∀ p u, (f p u).length = 4) : ∀ {ps : List Pc} {xs : List Value}, Cells f X w ps xs → xs.length = ps.length * 4
  | [], _, h => by
    have e : _ = [] := h
    subst e
    rfl
  | _ :: ps, xs, ⟨u, ys, hc, hf, hr, e⟩ => by
    subst e
    rw [List.length_append, hf4, Cells.length hf4 hr, List.length_cons]
    omega
end
theorem pV4 (p : Pc) (u : Value) : (pV p u).length = 4 := rfl
theorem eV4 (p : Pc) (u : Value) : (eV p u).length = 4 := rfl

/-- A slice of pieces, wherever it lies. -/
def Pcs (f : Pc → Value → List Value) (w : World) (v : Value) (ps : List Pc) : Prop :=
  ∃ a cap xs, v = .slice a ps.length cap ∧ ps.length ≤ cap ∧ Cells f (fun _ => False) w ps xs ∧ (0 < ps.length → ∃ b off, a = some ⟨b, off, none⟩ ∧ b < w.heap.size ∧ ∀ j c, xs[j]? = some c → w.cell? ⟨b, off + j, none⟩ = some c)
theorem Pcs.below {f : Pc → Value → List Value} {w w' : World} {v : Value} {ps : List Pc} (h : Pcs f w v ps) (hb : Below w.heap.size w w') : Pcs f w' v ps := by
  obtain ⟨a, cap, xs, e, hle, hc, h1⟩ := h
  refine ⟨a, cap, xs, e, hle, hc.below hb, fun h0 => ?_⟩
  obtain ⟨b, off, ea, hlt, hcell⟩ := h1 h0
  exact ⟨b, off, ea, Nat.lt_of_lt_of_le hlt hb.size, fun j c hj => (hb.cell (p := ⟨b, off + j, none⟩) hlt).trans (hcell j c hj)⟩
theorem Pcs.cap {f : Pc → Value → List Value} {w : World} {a : Option Addr} {n cap : Nat} {ps : List Pc} (h : Pcs f w (.slice a n cap) ps) : n ≤ cap := by
  obtain ⟨a', cap', xs, e, hle, _⟩ := h
  injection e with _ e2 e3
  omega
theorem Pcs.form {f : Pc → Value → List Value} {w : World} {v : Value} {ps : List Pc} (h : Pcs f w v ps) : ∃ a cap, v = .slice a ps.length cap := by
  obtain ⟨a, cap, xs, e, _⟩ := h
  exact ⟨a, cap, e⟩
/-- The piece at a place: its comment and its cells. -/
theorem Pcs.at_ {f : Pc → Value → List Value} {w : World} {a : Option Addr} {n cap : Nat} {ps : List Pc} (hf4 : ∀ p u, (f p u).length = 4) (h : Pcs f w (.slice a n cap) ps) {i : Nat} {p : Pc} (hp : ps[i]? = some p) :
    ∃ b off u, a = some ⟨b, off, none⟩ ∧ b < w.heap.size ∧ Comm w u p.ss ∧ ∀ j c, (f p u)[j]? = some c → w.cell? ⟨b, off + (i * 4 + j), none⟩ = some c := by
  obtain ⟨a', cap', xs, e, hle, hc, h1⟩ := h
  injection e with e1 e2 e3
  subst e1
  have hi : i < ps.length := (List.getElem?_eq_some_iff.1 hp).1
  obtain ⟨b, off, ea, hlt, hcell⟩ := h1 (by omega)
  obtain ⟨u, hu, _, hj⟩ := hc.at_ hf4 i p hp
  exact ⟨b, off, u, ea, hlt, hu, fun j c h => hcell _ c (hj j c h)⟩

/-- The four cells at a place, as the walk spells their addresses. -/
theorem Pcs.atP {w : World} {a : Option Addr} {n cap : Nat} {ps : List Pc} (h : Pcs pV w (.slice a n cap) ps) {i : Nat} {p : Pc} (hp : ps[i]? = some p) :
    ∃ b off u, a = some ⟨b, off, none⟩ ∧ b < w.heap.size ∧ Comm w u p.ss ∧ w.cell? ⟨b, off + i * 4, none⟩ = some (.int .i64 p.k) ∧ w.cell? ⟨b, off + i * 4 + 1, none⟩ = some (.int .i64 p.bl) ∧
      w.cell? ⟨b, off + i * 4 + 2, none⟩ = some (.int .i64 p.ind) ∧ w.cell? ⟨b, off + i * 4 + 3, none⟩ = some u := by
  obtain ⟨b, off, u, ea, hlt, hu, hc⟩ := h.at_ pV4 hp
  exact ⟨b, off, u, ea, hlt, hu, hc 0 _ rfl, hc 1 _ rfl, hc 2 _ rfl, hc 3 _ rfl⟩
theorem Pcs.atE {w : World} {a : Option Addr} {n cap : Nat} {ps : List Pc} (h : Pcs eV w (.slice a n cap) ps) {i : Nat} {p : Pc} (hp : ps[i]? = some p) :
    ∃ b off u, a = some ⟨b, off, none⟩ ∧ b < w.heap.size ∧ Comm w u p.ss ∧ w.cell? ⟨b, off + i * 4, none⟩ = some u ∧ w.cell? ⟨b, off + i * 4 + 1, none⟩ = some (.int .i64 p.k) ∧
      w.cell? ⟨b, off + i * 4 + 2, none⟩ = some (.int .i64 p.bl) ∧ w.cell? ⟨b, off + i * 4 + 3, none⟩ = some (.int .i64 p.ind) := by
  obtain ⟨b, off, u, ea, hlt, hu, hc⟩ := h.at_ eV4 hp
  exact ⟨b, off, u, ea, hlt, hu, hc 0 _ rfl, hc 1 _ rfl, hc 2 _ rfl, hc 3 _ rfl⟩
/-- A slice of pieces that the call owns: its row lies from base on, its comments elsewhere, and in no block of X. -/
def OwnX (f : Pc → Value → List Value) (X : Nat → Prop) (base : Nat) (t : TypeId) (w : World) (v : Value) (ps : List Pc) : Prop :=
  ∃ xs, w.ownsRow base t 4 v ps.length xs ∧ Cells f (fun k => X k ∨ v.ownBlock = some k) w ps xs
abbrev Own (f : Pc → Value → List Value) (base : Nat) (t : TypeId) (w : World) (v : Value) (ps : List Pc) : Prop := OwnX f (fun _ => False) base t w v ps
theorem OwnX.pcs {f : Pc → Value → List Value} {X : Nat → Prop} {base : Nat} {t : TypeId} {w : World} {v : Value} {ps : List Pc} (h : OwnX f X base t w v ps) : Pcs f w v ps := by
  obtain ⟨xs, ho, hc⟩ := h
  rcases Nat.eq_zero_or_pos ps.length with h0 | h0
  · rcases ho.2 with ⟨rfl, _⟩ | ⟨g, cap, cur, rfl, _⟩
    · exact ⟨none, 0, xs, by rw [h0], by omega, hc.far_none, fun h => by omega⟩
    · exact ⟨_, cap, xs, by rw [h0], by omega, hc.far_none, fun h => by omega⟩
  · have hcap := ho.2
    obtain ⟨g, cap, rfl, _, hlt⟩ := ho.form h0
    have hle : ps.length ≤ cap := by
      rcases hcap with ⟨h, _⟩ | ⟨g', cap', cur, h, _, _, hle, _⟩
      · cases h
      · injection h with _ _ h3
        omega
    refine ⟨_, cap, xs, rfl, hle, hc.far_none, fun _ => ⟨g, 0, rfl, hlt, fun j c hj => ?_⟩⟩
    have := ho.cells (g := g) rfl j c hj
    have hadd : (⟨g, 0, none⟩ : Addr).add j = ⟨g, 0 + j, none⟩ := by unfold Addr.add; split <;> simp_all
    rwa [hadd] at this
theorem ownsRow_only {S : Nat → Prop} {w w' : World} {base : Nat} {t : TypeId} {n : Nat} {v : Value} {m : Nat} {xs : List Value} (h : w.ownsRow base t n v m xs) (hb : Only S w w') (hS : ∀ b, v.ownBlock = some b → ¬ S b) : w'.ownsRow base t n v m xs := by
  refine ⟨h.1, ?_⟩
  rcases h.2 with h2 | ⟨g, cap, cur, rfl, hg, hh, r⟩
  · exact .inl h2
  · have hlt : g < w.heap.size := by
      rcases Nat.lt_or_ge g w.heap.size with hlt | hge
      · exact hlt
      · rw [Array.getElem?_eq_none hge] at hh; cases hh
    exact .inr ⟨g, cap, cur, rfl, hg, (hb.block g hlt (hS g rfl)).trans hh, r⟩
theorem ownsRow_below {w w' : World} {base : Nat} {t : TypeId} {n : Nat} {v : Value} {m : Nat} {xs : List Value} (h : w.ownsRow base t n v m xs) (hb : Below w.heap.size w w') : w'.ownsRow base t n v m xs :=
  ownsRow_only h (Only.of_below (S := fun _ => False) hb) (fun _ _ h => h)
theorem OwnX.only {f : Pc → Value → List Value} {X Y : Nat → Prop} {base : Nat} {t : TypeId} {w w' : World} {v : Value} {ps : List Pc} {S : Nat → Prop} (h : OwnX f X base t w v ps) (hb : Only S w w') (hS : ∀ b, S b → X b ∨ w.heap.size ≤ b) (hv : ∀ b, v.ownBlock = some b → ¬ S b) (hY : ∀ b, Y b → X b ∨ w.heap.size ≤ b) : OwnX f Y base t w' v ps := by
  obtain ⟨xs, ho, hc⟩ := h
  refine ⟨xs, ownsRow_only ho hb hv, hc.only2 (fun b hb => ?_) hb (fun b hs hlt => ?_)⟩
  · rcases hb with hb | hb
    · exact (hY b hb).imp .inl id
    · exact .inl (.inr hb)
  · rcases hS b hs with h | h
    · exact .inl h
    · omega
theorem OwnX.below {f : Pc → Value → List Value} {X : Nat → Prop} {base : Nat} {t : TypeId} {w w' : World} {v : Value} {ps : List Pc} (h : OwnX f X base t w v ps) (hb : Below w.heap.size w w') : OwnX f X base t w' v ps :=
  h.only (S := fun _ => False) (.of_below hb) (fun _ h => h.elim) (fun _ _ h => h) (fun _ h => .inl h)
/-- Blocks that are new are none of its own. -/
theorem OwnX.far {f : Pc → Value → List Value} {X Y : Nat → Prop} {base : Nat} {t : TypeId} {w : World} {v : Value} {ps : List Pc} (h : OwnX f X base t w v ps) (hY : ∀ b, Y b → X b ∨ w.heap.size ≤ b) : OwnX f Y base t w v ps :=
  h.only (S := fun _ => False) (.refl _ _) (fun _ h => h.elim) (fun _ _ h => h) hY
/-- One piece more. -/
theorem OwnX.push {f : Pc → Value → List Value} {X : Nat → Prop} {base : Nat} {t : TypeId} {w w' : World} {v u : Value} {qs : List Pc} {p : Pc} {xs : List Value} {g m cap : Nat} (hc : Cells f (fun k => X k ∨ v.ownBlock = some k) w qs xs) (hu : Comm w u p.ss) (hf : Far (fun k => X k ∨ v.ownBlock = some k) u p.ss)
    (ho' : w'.ownsRow base t 4 (.slice (some ⟨g, 0, none⟩) m cap) m (xs ++ f p u)) (hm : m = qs.length + 1) (hgrow : w.grownBy w' v.ownBlock) (hat : v.ownBlock = some g ∨ g = w.heap.size) : OwnX f X base t w' (.slice (some ⟨g, 0, none⟩) m cap) (qs ++ [p]) := by
  have hc1 : Cells f (fun k => X k ∨ v.ownBlock = some k) w (qs ++ [p]) (xs ++ f p u) := hc.snoc hu hf
  have ho : Only (fun k => v.ownBlock = some k) w w' := ⟨hgrow.os, hgrow.tape, hgrow.output, hgrow.size, fun k hk hn => hgrow.block k hk (fun e => hn e.symm)⟩
  have hc4 : Cells f (fun k => X k ∨ (Value.slice (some ⟨g, 0, none⟩) m cap).ownBlock = some k) w' (qs ++ [p]) (xs ++ f p u) := hc1.only2 (fun b hb => by
    rcases hb with hb | hb
    · exact .inl (.inl hb)
    · obtain rfl : g = b := by simpa [Value.ownBlock] using hb
      rcases hat with h | h
      · exact .inl (.inr h)
      · exact .inr (by omega)) ho (fun b hb _ => .inr hb)
  refine ⟨_, ?_, hc4⟩
  rw [List.length_append, List.length_singleton, ← hm]
  exact ho'
/-- The row of a piece is of one-celled values. -/
theorem pV_one {w : World} {p : Pc} {u : Value} (h : Comm w u p.ss) : ∀ c ∈ pV p u, c.oneCell' = true := by
  have := h.oneCell
  intro c hc
  simp only [pV, List.mem_cons, List.not_mem_nil, or_false] at hc
  rcases hc with rfl | rfl | rfl | rfl <;> first | rfl | assumption
theorem eV_one {w : World} {p : Pc} {u : Value} (h : Comm w u p.ss) : ∀ c ∈ eV p u, c.oneCell' = true := by
  have := h.oneCell
  intro c hc
  simp only [eV, List.mem_cons, List.not_mem_nil, or_false] at hc
  rcases hc with rfl | rfl | rfl | rfl <;> first | rfl | assumption

/-- impl.element, and where its comment lies. -/
theorem element_far {w : World} {v : Value} {ss : List ByteArray} (k bl ind : Int) (h : Comm w v ss) (hm : ss.length ≤ 1000000) :
    Calls Try.prog 30 #[.agg #[.int .i64 k, .int .i64 bl, .int .i64 ind, v]] w fun e w' => (∃ v', e = .returned (.agg #[v', .int .i64 k, .int .i64 bl, .int .i64 ind]) ∧ Comm w' v' ss ∧ (0 < ss.length → ∃ b, v'.ownBlock = some b ∧ w.heap.size ≤ b)) ∧ Below w.heap.size w w' := by
  rcases h with ⟨rfl, a, cap, rfl⟩ | ⟨h0, b, off, cap, rfl, hlt, hc⟩
  · rcases a with _ | ad
    · exact (element_nil k bl ind cap w).mono fun e w' ⟨⟨a', c', he⟩, hb⟩ => ⟨⟨_, he, .inl ⟨rfl, _, _, rfl⟩, fun h => by simp at h⟩, hb⟩
    · exact (element_emp k bl ind ad cap w).mono fun e w' ⟨⟨a', c', he⟩, hb⟩ => ⟨⟨_, he, .inl ⟨rfl, _, _, rfl⟩, fun h => by simp at h⟩, hb⟩
  · exact (element_row k bl ind ss b off cap w h0 hm hlt hc).mono fun e w' ⟨⟨g, c', he, h1, h2, h3⟩, hb⟩ => ⟨⟨_, he, .inr ⟨h0, g, 0, c', rfl, h2, h3⟩, fun _ => ⟨g, rfl, h1⟩⟩, hb⟩

/-- Nothing is appended: the slice stays. -/
theorem run_append_zero {P : Program} {w : World} {base : Nat} {t ty e : TypeId} {i : TypeInfo} {size : Nat} (ht : P.underlying t = some (.slice e)) (hi : P.info? e = some i) {v : Value} {n : Nat} {xs : List Value} (hown : w.ownsRow base e size v n xs) (A : Option Addr) (c : Nat) :
    (Builtin.append_ #[t, t] ty #[v, .slice A 0 c]).run P w = .ok v w := by
  rcases A with _ | ad
  all_goals
    rcases hown.2 with ⟨rfl, rfl⟩ | ⟨g, cap, cur, rfl, _, _, hnc, _⟩
    · simp [Builtin.append_, run_underlying ht, sizeOf, typeInfo, hi, Builtin.lenOf, Builtin.firstCells, loadCells, loadCellsFrom]
    · simp [Builtin.append_, run_underlying ht, sizeOf, typeInfo, hi, Builtin.lenOf, Builtin.firstCells, loadCells, loadCellsFrom, hnc, storeCells]
theorem wpList_append_zero {P : Program} {w : World} {ops : Array Oper} {rest : List Oper} {o : Oper} {a : Act} {Q : Exit → Act → World → Prop} (hgd : o.guard = none) (s x : Operand) (t : TypeId)
    (ho : o.op = .call { callee := .builtin .append, args := #[s, x], argTypes := #[t, t] })
    (base : Nat) (e : TypeId) (i : TypeInfo) (size : Nat) (ht : P.underlying t = some (.slice e)) (hi : P.info? e = some i)
    (v : Value) (n : Nat) (xs : List Value) (hs : a.eval s = v) (hown : w.ownsRow base e size v n xs) (A : Option Addr) (c : Nat) (hx : a.eval x = .slice A 0 c)
    (h : wpList P ops Q rest (a.put o.dst v) w) : wpList P ops Q (o :: rest) a w :=
  wpList_plain hgd fun K hK => by
    unfold Oper.wp execOp
    simp only [ho, resolve, invoke, builtin, Sem.run_bind, Sem.run_pure, Result.andThen_ok, List.map_toArray, List.map_cons, List.map_nil, hs, hx, run_append_zero ht hi hown]
    exact hK _ _ h

/-! ### What the laws say of pieces, in plain words -/
abbrev Pc.Sound (p : Pc) : Prop := SoundP p.k p.bl p.ind p.ss
/-- Ends with a line. -/
def cleanB (ps : List Pc) : Bool := match ps.getLast? with | none => false | some p => p.k != 1
def KeptP (ps : List Pc) : Prop := ∀ i p, ps[i]? = some p → p.k = 0 → cleanB (ps.take i) = false
def GoodP (ps : List Pc) : Prop := (∀ p ∈ ps, p.Sound) ∧ ps.length ≤ 24 ∧ KeptP ps
def comms (ps : List Pc) : List ByteArray := ps.flatMap Pc.ss
/-- The last piece takes the next one in. -/
def lastPlus (ps : List Pc) (p : Pc) : List Pc := match ps.getLast? with | none => ps | some q => ps.dropLast ++ [{ q with ind := p.ind, bl := q.bl + p.bl }]
def appendP (ps : List Pc) (p : Pc) : List Pc :=
  if cleanB ps = true ∧ p.k = 0 then (if 0 < p.ss.length then ps ++ [{ p with k := 2 }] else lastPlus ps p)
  else if cleanB ps = false ∧ p.k = 2 then ps ++ [{ k := 0, bl := 0, ind := p.ind, ss := [] }] ++ [p] else ps ++ [p]
def joinP (ps qs : List Pc) : List Pc := match ps, qs with | [], _ => qs | _, [] => ps | _, q :: qs => appendP ps q ++ qs

/-- A truth value that tells a fact. -/
def Tells (P : Prop) (e : Ending) : Prop := ∃ r, e = .returned (.bool r) ∧ (r = true ↔ P)
theorem tells_of {P : Prop} {r : Bool} (h : r = true ↔ P) : Tells P (.returned (.bool r)) := ⟨r, rfl, h⟩
theorem tells_yes {P : Prop} (h : P) : Tells P (.returned (.bool true)) := ⟨true, rfl, by simp [h]⟩
theorem tells_no {P : Prop} (h : ¬ P) : Tells P (.returned (.bool false)) := ⟨false, rfl, by simp [h]⟩
/-- A truth value that is told only if a fact holds. -/
def IfTells (P : Prop) (e : Ending) : Prop := ∃ r, e = .returned (.bool r) ∧ (r = true → P)
theorem ifTells_of {P : Prop} {r : Bool} (h : r = true → P) : IfTells P (.returned (.bool r)) := ⟨r, rfl, h⟩
theorem ifTells_no (P : Prop) : IfTells P (.returned (.bool false)) := ⟨false, rfl, fun h => by cases h⟩
theorem ifTells_yes {P : Prop} (h : P) : IfTells P (.returned (.bool true)) := ⟨true, rfl, fun _ => h⟩
end Go.Proofs.Ythlnciihabhmaaa
