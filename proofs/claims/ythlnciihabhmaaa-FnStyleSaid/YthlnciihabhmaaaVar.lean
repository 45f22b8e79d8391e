/-
  Variables of one cell; what good pieces are; small words for the walks of this seat. Conditions: the lists' lengths.
-/
import Derived.Test.YthlnciihabhmaaaSpecs
import Derived.IntWalk
import Derived.Deep.RegionHeld3
import Derived.Deep.RegionHeldLaw
namespace Go.Proofs.Ythlnciihabhmaaa
open Go.ChangeShapes Go.WideShapes Go.ChangeAt Go.RowKit Go.Joins

theorem clean_is {w : World} {v : Value} {ps : List Pc} {r : Bool} (h : Pcs pV w v ps) (hm : (ps.length : Int) ≤ 2147483647) (hr : cleanB ps = r) :
    Calls Try.prog 12 #[v] w fun e w' => e = .returned (.bool r) ∧ w = w' := hr ▸ clean_pcs h hm
theorem cleanE_is {w : World} {v : Value} {ps : List Pc} {r : Bool} (h : Pcs eV w v ps) (hm : (ps.length : Int) ≤ 2147483647) (hr : cleanB ps = r) :
    Calls Try.prog 26 #[v] w fun e w' => e = .returned (.bool r) ∧ w = w' := hr ▸ cleanE_pcs h hm

/-- A call of a Go function, as one step of a region that draws. -/
theorem step_call {P : Program} {ops : Array Oper} {o : Oper} {a : Act} {w : World} {K : Act → World → Prop} {Q : Exit → Act → World → Prop} {E : Prop} {f : FuncId} {args : Array Value} {R : Ending → World → Prop} (hg : o.guard = none)
    (hc : Calls P f args w R) (hv : (execOp a.eval o).run P w = .ok (.enter f args) w) (hR : ∀ e w', R e w' → ∃ v, e = .returned v ∧ K (a.put o.dst v) w') : if Region.wanted o (yielded ops a.tmps) = true then Oper.wp P o a w K Q else E := by
  have hw : Region.wanted o (yielded ops a.tmps) = true := by simp [Region.wanted, hg]
  rw [if_pos hw]
  unfold Oper.wp
  rw [hv, Oper.upon_enter]
  exact hc.mono fun e w' h => by
    obtain ⟨v, rfl, hk⟩ := hR e w' h
    exact hk

/-- A variable of one cell. -/
abbrev Var (w : World) (A : Nat) (t : TypeId) (v : Value) : Prop := w.heap[A]? = some (.cells #[v] t)
theorem Var.lt {w : World} {A : Nat} {t : TypeId} {v : Value} (h : Var w A t v) : A < w.heap.size := by
  rcases Nat.lt_or_ge A w.heap.size with hlt | hge
  · exact hlt
  · unfold Var at h; rw [Array.getElem?_eq_none hge] at h; cases h
theorem Var.cell {w : World} {A : Nat} {t : TypeId} {v : Value} (h : Var w A t v) : w.cell? ⟨A, 0, none⟩ = some v := cell_of_row _ _ 0 _ _ _ h
theorem Var.free {w : World} {A : Nat} {t : TypeId} {v : Value} (h : Var w A t v) (j : Nat) : w.frozen? ⟨A, j, none⟩ = false := unfrozen_of_block h j
theorem Var.set_ {w : World} {A : Nat} {t : TypeId} {v : Value} (h : Var w A t v) (u : Value) : Var (w.setCell ⟨A, 0, none⟩ u) A t u := by
  unfold Var at h ⊢
  simp [World.setCell, Array.getElem?_modify, h]
theorem Var.only {w w' : World} {A : Nat} {t : TypeId} {v : Value} {S : Nat → Prop} (h : Var w A t v) (hb : Only S w w') (hS : ¬ S A) : Var w' A t v := (hb.block A h.lt hS).trans h
theorem Var.below {w w' : World} {A : Nat} {t : TypeId} {v : Value} (h : Var w A t v) (hb : Below w.heap.size w w') : Var w' A t v := (hb.block A h.lt).trans h
/-- A variable lies apart from a row of another type. -/
theorem Var.ne_ {w : World} {A : Nat} {t e : TypeId} {v x : Value} {base n m : Nat} {xs : List Value} (h : Var w A t v) (ho : w.ownsRow base e n x m xs) (hne : e ≠ t) : x.ownBlock ≠ some A := by
  rcases ho.2 with ⟨rfl, _⟩ | ⟨g, cap, cur, rfl, _, hh, _⟩
  · simp [Value.ownBlock]
  · intro he
    obtain rfl : g = A := by simpa [Value.ownBlock] using he
    unfold Var at h
    rw [h] at hh
    injection hh with hh
    injection hh with _ ht
    exact hne ht.symm

theorem var_grown {w w' : World} {A : Nat} {t : TypeId} {v x : Value} (h : Var w A t v) (hne : x.ownBlock ≠ some A) (hg : w.grownBy w' x.ownBlock) : Var w' A t v := (hg.block A h.lt hne.symm).trans h
def Short (m : Nat) (ps : List Pc) : Prop := ∀ p ∈ ps, p.ss.length ≤ m
/-- What good pieces are. -/
structure GoodF (ps : List Pc) : Prop where
  len : (ps.length : Int) ≤ 24
  kind : ∀ p ∈ ps, p.k = 0 ∨ p.k = 1 ∨ p.k = 2
  bl : ∀ p ∈ ps, 0 ≤ p.bl ∧ p.bl ≤ 1000000
  short : Short 12 ps
  kept : KeptP ps
theorem sound_kind {p : Pc} (h : p.Sound) : p.k = 0 ∨ p.k = 1 ∨ p.k = 2 := by
  obtain ⟨_, _, _, _, h⟩ := h
  rcases h with h | h | h
  · exact .inl h.1
  · exact .inr (.inl h.1)
  · exact .inr (.inr h.1)
theorem sound_bl {p : Pc} (h : p.Sound) : 0 ≤ p.bl ∧ p.bl ≤ 1000000 := by
  obtain ⟨h, _⟩ := h
  exact ⟨h.1, by omega⟩
theorem good_facts {ps : List Pc} (h : GoodP ps) : GoodF ps :=
  ⟨by have := h.2.1; omega, fun p hp => sound_kind (h.1 p hp), fun p hp => sound_bl (h.1 p hp), fun p hp => (h.1 p hp).2.2.1, h.2.2⟩
theorem Short.le {m n : Nat} {ps : List Pc} (h : Short m ps) (hn : m ≤ n) : Short n ps := fun p hp => Nat.le_trans (h p hp) hn

theorem comms_bound {ps : List Pc} (h : (ps.length : Int) ≤ 1000) (hs : Short 12 ps) : ((comms ps).length : Int) ≤ 9223372036854775807 := by
  have h1 := comms_le hs
  have h2 : ps.length * 12 ≤ 1000 * 12 := Nat.mul_le_mul_right _ (by omega)
  omega
theorem OwnX.lt {f : Pc → Value → List Value} {X : Nat → Prop} {base : Nat} {t : TypeId} {w : World} {v : Value} {ps : List Pc} (h : OwnX f X base t w v ps) {k : Nat} (hk : v.ownBlock = some k) : base ≤ k ∧ k < w.heap.size := by
  obtain ⟨xs, ho, _⟩ := h
  exact ho.lt k hk
/-- What a piece's comment keeps apart from. -/
theorem OwnX.atE {X : Nat → Prop} {base : Nat} {t : TypeId} {w : World} {a : Option Addr} {n cap : Nat} {ps : List Pc} (h : OwnX eV X base t w (.slice a n cap) ps) {i : Nat} {p : Pc} (hp : ps[i]? = some p) :
    ∃ b off u, a = some ⟨b, off, none⟩ ∧ b < w.heap.size ∧ Comm w u p.ss ∧ Far X u p.ss ∧ w.cell? ⟨b, off + i * 4, none⟩ = some u ∧ w.cell? ⟨b, off + i * 4 + 1, none⟩ = some (.int .i64 p.k) ∧
      w.cell? ⟨b, off + i * 4 + 2, none⟩ = some (.int .i64 p.bl) ∧ w.cell? ⟨b, off + i * 4 + 3, none⟩ = some (.int .i64 p.ind) := by
  obtain ⟨xs, ho, hc⟩ := h
  obtain ⟨u, hu, hf, hj⟩ := hc.at_ eV4 i p hp
  have hi : i < ps.length := (List.getElem?_eq_some_iff.1 hp).1
  obtain ⟨g, cap', e, _, hlt⟩ := ho.form (by omega)
  injection e with e1 e2 e3
  subst e1
  have hcell : ∀ j c, xs[j]? = some c → w.cell? ⟨g, 0 + j, none⟩ = some c := fun j c h => by
    have := ho.cells (g := g) rfl j c h
    have hadd : (⟨g, 0, none⟩ : Addr).add j = ⟨g, 0 + j, none⟩ := by unfold Addr.add; split <;> simp_all
    rwa [hadd] at this
  exact ⟨g, 0, u, rfl, hlt, hu, hf.mono fun b hb => .inl hb, hcell _ _ (hj 0 _ rfl), hcell _ _ (hj 1 _ rfl), hcell _ _ (hj 2 _ rfl), hcell _ _ (hj 3 _ rfl)⟩
end Go.Proofs.Ythlnciihabhmaaa
