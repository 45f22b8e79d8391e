/-
  Rows of values of one cell: texts, truth values. Plain words on worlds, and append. Conditions: the rows' lengths.
-/
import Derived.Test.YtceepfnjdkfjnaaKit
import Derived.LoopTactic
import Derived.OwnWalk
import Derived.Deep.AppendLies
import Derived.Laws.OwnMore
import Derived.Maps.OwnSet
import Derived.Maps.RangeWalk
import Derived.Maps.AppendAt
namespace Go.Proofs.Ytceepfnjdkfjnaa
open Go.ChangeShapes Go.WideShapes Go.ChangeAt Go.RowKit Go.Joins

theorem infoS : (Try.prog.info? 9).map (fun i => (i.zero, i.size, i.bytes)) = some (some (.string ByteArray.empty), 1, 16) := by kernel_rfl
theorem infoB : (Try.prog.info? 4).map (fun i => (i.zero, i.size, i.bytes)) = some (some (.bool false), 1, 1) := by kernel_rfl
/-- A text, as it lies in memory. -/
def str (l : List UInt8) : Value := .string ⟨l.toArray⟩
theorem str_data (s : ByteArray) : str s.data.toList = .string s := by
  cases s
  simp [str]
def strs (ls : List (List UInt8)) : List Value := ls.map str
def bits (bs : List Bool) : List Value := bs.map Value.bool
/-- A row of values of one cell that the call owns. -/
def OwnR (t : TypeId) (base : Nat) (w : World) (v : Value) (xs : List Value) : Prop := w.ownsRow base t 1 v xs.length xs ∧ ∃ g cap, v = .slice (some ⟨g, 0, none⟩) xs.length cap
theorem OwnR.form {t : TypeId} {base : Nat} {w : World} {v : Value} {xs : List Value} (h : OwnR t base w v xs) : ∃ g cap, v = .slice (some ⟨g, 0, none⟩) xs.length cap ∧ base ≤ g ∧ g < w.heap.size ∧ xs.length ≤ cap := by
  obtain ⟨ho, g, cap, rfl⟩ := h
  have hl := ho.lt g rfl
  rcases ho.2 with ⟨h0, _⟩ | ⟨g', cap', cur, e, _, _, hc, _⟩
  · cases h0
  · injection e with _ _ e3
    subst e3
    exact ⟨g, cap, rfl, hl.1, hl.2, hc⟩
theorem OwnR.cell {t : TypeId} {base : Nat} {w : World} {g n cap : Nat} {xs : List Value} (h : OwnR t base w (.slice (some ⟨g, 0, none⟩) n cap) xs) {i : Nat} {x : Value} (hx : xs[i]? = some x) : w.cell? ⟨g, i, none⟩ = some x := by
  obtain ⟨ho, g', cap', e⟩ := h
  injection e with e1 e2 _
  subst e2
  have hi := (List.getElem?_eq_some_iff.1 hx).1
  rw [ho.cellAt i (by omega), hx]
theorem OwnR.kept {t : TypeId} {base : Nat} {w w' : World} {v : Value} {xs : List Value} {row : Option Nat} (h : OwnR t base w v xs) (hg : w.grownBy w' row) (hne : v.ownBlock ≠ row) : OwnR t base w' v xs := ⟨h.1.kept hg (.inr hne), h.2⟩
theorem OwnR.bel {t : TypeId} {base : Nat} {w w' : World} {v : Value} {xs : List Value} (h : OwnR t base w v xs) (hb : Below w.heap.size w w') : OwnR t base w' v xs :=
  h.kept (row := none) ⟨hb.os, hb.tape, hb.output, hb.size, fun k hk _ => hb.block k hk⟩ (by obtain ⟨g, cap, rfl, _⟩ := h.form; simp [Value.ownBlock])
theorem OwnR.mono {t : TypeId} {base base' : Nat} {w : World} {v : Value} {xs : List Value} (h : OwnR t base w v xs) (hb : base' ≤ base) : OwnR t base' w v xs :=
  ⟨⟨h.1.1, h.1.2.imp id fun ⟨g, cap, cur, e, h1, r⟩ => ⟨g, cap, cur, e, Nat.le_trans hb h1, r⟩⟩, h.2⟩
theorem OwnR.ne {t : TypeId} {base : Nat} {w : World} {v : Value} {xs : List Value} (h : OwnR t base w v xs) {k : Nat} (hk : k < base) : v.ownBlock ≠ some k := fun e => by
  have := (h.1.lt k e).1
  omega
theorem OwnR.apart {t t' : TypeId} {base base' : Nat} {w : World} {v v' : Value} {xs xs' : List Value} (h : OwnR t base w v xs) (h' : OwnR t' base' w v' xs') (hne : t ≠ t') : v.ownBlock ≠ v'.ownBlock := fun e => by
  rcases h.1.2 with ⟨h0, _⟩ | ⟨g, cap, cur, rfl, _, hg, _⟩
  · obtain ⟨_, _, e1⟩ := h.2
    rw [h0] at e1
    cases e1
  · rcases h'.1.2 with ⟨h0, _⟩ | ⟨g', cap', cur', rfl, _, hg', _⟩
    · obtain ⟨_, _, e1⟩ := h'.2
      rw [h0] at e1
      cases e1
    · obtain rfl : g = g' := by simpa [Value.ownBlock] using e
      rw [hg] at hg'
      injection hg' with hg'
      injection hg' with _ e2 _
      exact hne e2
theorem OwnR.in_ {t : TypeId} {base : Nat} {w : World} {v : Value} {xs : List Value} (h : OwnR t base w v xs) : ∀ j, v.ownBlock = some j → base ≤ j ∧ j < w.heap.size := h.1.lt
theorem OwnR.empty {t : TypeId} {base : Nat} {w : World} {g : Nat} (hb : base ≤ g) (hg : w.heap[g]? = some (.cells #[] t)) : OwnR t base w (.slice (some ⟨g, 0, none⟩) 0 0) [] :=
  ⟨⟨rfl, .inr ⟨g, 0, #[], rfl, hb, hg, Nat.le_refl _, by unfold maxLen; omega, rfl, rfl⟩⟩, g, 0, rfl⟩
/-- A row, as it is read. -/
def ReadR (w : World) (v : Value) (xs : List Value) : Prop := ∃ g cap, v = .slice (some ⟨g, 0, none⟩) xs.length cap ∧ xs.length ≤ cap ∧ g < w.heap.size ∧ ∀ i x, xs[i]? = some x → w.cell? ⟨g, i, none⟩ = some x
theorem OwnR.read {t : TypeId} {base : Nat} {w : World} {v : Value} {xs : List Value} (h : OwnR t base w v xs) : ReadR w v xs := by
  obtain ⟨g, cap, rfl, _, hlt, hc⟩ := h.form
  exact ⟨g, cap, rfl, hc, hlt, fun i x hx => h.cell hx⟩
theorem ReadR.bel {w w' : World} {v : Value} {xs : List Value} (h : ReadR w v xs) (hb : Below w.heap.size w w') : ReadR w' v xs := by
  obtain ⟨g, cap, rfl, hc, hlt, hx⟩ := h
  exact ⟨g, cap, rfl, hc, Nat.lt_of_lt_of_le hlt hb.size, fun i x h => ((bcell hb).1 g i hlt).trans (hx i x h)⟩
/-- append, of some values of one cell that lie somewhere. -/
theorem row_append {t st : TypeId} {i0 : TypeInfo} {z : Value} {bytes : Nat} (hst : Try.prog.underlying st = some (.slice t)) (hi0 : Try.prog.info? t = some i0) (hz0 : i0.zero = some z) (hs0 : i0.size = 1) (hb0 : i0.bytes = bytes) (hb16 : bytes ≤ 16) (hz1 : z.cells.size = 1)
    {w : World} {base : Nat} {v : Value} {xs news : List Value} (hown : OwnR t base w v xs) {sg so m cp : Nat} (hm : news.length = m) (hnews : ∀ j u, news[j]? = some u → w.cell? ⟨sg, so + j, none⟩ = some u) (h1 : ∀ u ∈ news, u.oneCell' = true) (hlen : xs.length + m ≤ 100000) (hbase : base ≤ w.heap.size)
    {ops : Array Oper} {rest : List Oper} {o : Oper} {a : Act} {Q : Exit → Act → World → Prop} (hgd : o.guard = none) (s x : Operand)
    (ho : o.op = .call { callee := .builtin .append, args := #[s, x], argTypes := #[st, st] }) (hs : a.eval s = v) (hx : a.eval x = .slice (some ⟨sg, so, none⟩) m cp)
    (h : ∀ g cap w', OwnR t base w' (.slice (some ⟨g, 0, none⟩) (xs.length + m) cap) (xs ++ news) → w.grownBy w' v.ownBlock → wpList Try.prog ops Q rest (a.put o.dst (.slice (some ⟨g, 0, none⟩) (xs.length + m) cap)) w') : wpList Try.prog ops Q (o :: rest) a w := by
  have hadd : ∀ j, (⟨sg, so, none⟩ : Addr).add j = ⟨sg, so + j, none⟩ := fun j => by unfold Addr.add; split <;> simp_all
  have hbb : (xs.length + m) * bytes ≤ (xs.length + m) * 16 := Nat.mul_le_mul_left _ hb16
  obtain ⟨ho1, g0, cap0, hv⟩ := hown
  obtain ⟨v', w', hr, h2, h3, h4, _⟩ := run_append_own_at (P := Try.prog) w base st o.type t i0 z 1 bytes hst hi0 hz0 hs0 hb0 hz1 (by decide) v xs.length xs ho1 ⟨sg, so, none⟩ m cp news (by omega) (fun j u hj => by rw [hadd]; exact hnews j u hj) h1 (by unfold maxLen; omega) (by omega) hbase
  refine wpList_plain hgd fun _ hK => ?_
  unfold Oper.wp execOp
  simp only [ho, resolve, invoke, builtin, Sem.run_bind, Sem.run_pure, Result.andThen_ok, List.map_toArray, List.map_cons, List.map_nil, hs, hx, hr]
  rcases h2.2 with ⟨hn, _⟩ | ⟨g, cap, cur, hv', _⟩
  · have := (h4.1 hn).1
    rw [hv] at this
    cases this
  · subst hv'
    refine hK _ _ (h g cap w' ⟨?_, g, cap, by rw [List.length_append, hm]⟩ h3)
    rw [List.length_append, hm]
    exact h2
theorem row_append_n {t st : TypeId} {i0 : TypeInfo} {z : Value} {bytes : Nat} (hst : Try.prog.underlying st = some (.slice t)) (hi0 : Try.prog.info? t = some i0) (hz0 : i0.zero = some z) (hs0 : i0.size = 1) (hb0 : i0.bytes = bytes) (hb16 : bytes ≤ 16) (hz1 : z.cells.size = 1)
    {w : World} {base : Nat} {v : Value} {xs news : List Value} (hown : OwnR t base w v xs) {sg so m cp : Nat} (hm : news.length = m) (hnews : ∀ j u, news[j]? = some u → w.cell? ⟨sg, so + j, none⟩ = some u) (h1 : ∀ u ∈ news, u.oneCell' = true) {n : Nat} (hn : xs.length + m = n) (hlen : n ≤ 100000) (hbase : base ≤ w.heap.size)
    {ops : Array Oper} {rest : List Oper} {o : Oper} {a : Act} {Q : Exit → Act → World → Prop} (hgd : o.guard = none) (s x : Operand)
    (ho : o.op = .call { callee := .builtin .append, args := #[s, x], argTypes := #[st, st] }) (hs : a.eval s = v) (hx : a.eval x = .slice (some ⟨sg, so, none⟩) m cp)
    (h : ∀ g cap w', OwnR t base w' (.slice (some ⟨g, 0, none⟩) n cap) (xs ++ news) → w.grownBy w' v.ownBlock → wpList Try.prog ops Q rest (a.put o.dst (.slice (some ⟨g, 0, none⟩) n cap)) w') : wpList Try.prog ops Q (o :: rest) a w := by
  subst hn
  exact row_append hst hi0 hz0 hs0 hb0 hb16 hz1 hown hm hnews h1 hlen hbase hgd s x ho hs hx h
end Go.Proofs.Ytceepfnjdkfjnaa
