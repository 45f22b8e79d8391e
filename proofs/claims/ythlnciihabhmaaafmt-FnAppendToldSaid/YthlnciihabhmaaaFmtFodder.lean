/-
  ast.FodderAppend: a piece is appended to pieces that the call owns. Conditions: the lists' lengths, the numbers of blank lines.
-/
import Derived.Test.YthlnciihabhmaaaFmtClean
import Derived.IntWalk
import Derived.Deep.RegionHeld3
import Derived.Deep.RegionHeldLaw
namespace Go.Proofs.YthlnciihabhmaaaFmt
open Go.ChangeShapes Go.WideShapes Go.ChangeAt Go.RowKit Go.Joins

theorem cleanE_is {w : World} {v : Value} {ps : List Pc} {r : Bool} (h : Pcs eV w v ps) (hm : (ps.length : Int) ≤ 2147483647) (hr : cleanB ps = r) :
    Calls Tryf.prog 48 #[v] w fun e w' => e = .returned (.bool r) ∧ w = w' := hr ▸ cleanE_pcs h hm

/-- A call of a Go function, as one step of a region that draws. -/
theorem step_call {P : Program} {ops : Array Oper} {o : Oper} {a : Act} {w : World} {K : Act → World → Prop} {Q : Exit → Act → World → Prop} {E : Prop} {f : FuncId} {args : Array Value} {R : Ending → World → Prop} (hg : o.guard = none)
    (hc : Calls P f args w R) (hv : (execOp a.eval o).run P w = .ok (.enter f args) w) (hR : ∀ e w', R e w' → ∃ v, e = .returned v ∧ K (a.put o.dst v) w') : if Region.wanted o (yielded ops a.tmps) = true then Oper.wp P o a w K Q else E := by
  have hw : Region.wanted o (yielded ops a.tmps) = true := by simp [Region.wanted, hg]
  rw [if_pos hw]
  unfold Oper.wp
  rw [hv, Oper.upon_enter]
  exact hc.mono fun e w' h => by
    obtain ⟨v, rfl, hk⟩ := hR e w' h
    exact hk

/-- A variable of one cell. -/
abbrev Var (w : World) (A : Nat) (t : TypeId) (v : Value) : Prop := w.heap[A]? = some (.cells #[v] t)
theorem Var.lt {w : World} {A : Nat} {t : TypeId} {v : Value} (h : Var w A t v) : A < w.heap.size := by
  rcases Nat.lt_or_ge A w.heap.size with hlt | hge
  · exact hlt
  · unfold Var at h; rw [Array.getElem?_eq_none hge] at h; cases h
theorem Var.cell {w : World} {A : Nat} {t : TypeId} {v : Value} (h : Var w A t v) : w.cell? ⟨A, 0, none⟩ = some v := cell_of_row _ _ 0 _ _ _ h
theorem Var.free {w : World} {A : Nat} {t : TypeId} {v : Value} (h : Var w A t v) (j : Nat) : w.frozen? ⟨A, j, none⟩ = false := unfrozen_of_block h j
theorem Var.set_ {w : World} {A : Nat} {t : TypeId} {v : Value} (h : Var w A t v) (u : Value) : Var (w.setCell ⟨A, 0, none⟩ u) A t u := by
  unfold Var at h ⊢
  simp [World.setCell, Array.getElem?_modify, h]
theorem Var.only {w w' : World} {A : Nat} {t : TypeId} {v : Value} {S : Nat → Prop} (h : Var w A t v) (hb : Only S w w') (hS : ¬ S A) : Var w' A t v := (hb.block A h.lt hS).trans h
theorem Var.below {w w' : World} {A : Nat} {t : TypeId} {v : Value} (h : Var w A t v) (hb : Below w.heap.size w w') : Var w' A t v := (hb.block A h.lt).trans h
/-- A variable lies apart from a row of another type. -/
theorem Var.ne_ {w : World} {A : Nat} {t e : TypeId} {v x : Value} {base n m : Nat} {xs : List Value} (h : Var w A t v) (ho : w.ownsRow base e n x m xs) (hne : e ≠ t) : x.ownBlock ≠ some A := by
  rcases ho.2 with ⟨rfl, _⟩ | ⟨g, cap, cur, rfl, _, hh, _⟩
  · simp [Value.ownBlock]
  · intro he
    obtain rfl : g = A := by simpa [Value.ownBlock] using he
    unfold Var at h
    rw [h] at hh
    injection hh with hh
    injection hh with _ ht
    exact hne ht.symm

theorem var_grown {w w' : World} {A : Nat} {t : TypeId} {v x : Value} (h : Var w A t v) (hne : x.ownBlock ≠ some A) (hg : w.grownBy w' x.ownBlock) : Var w' A t v := (hg.block A h.lt hne.symm).trans h
/-- Block g reads as in W1. -/
abbrev BoxAt (W1 : World) (g : Nat) (w' : World) : Prop := (∀ o, w'.cell? ⟨g, o, none⟩ = W1.cell? ⟨g, o, none⟩) ∧ g < w'.heap.size
theorem BoxAt.start {W1 : World} {g : Nat} (h : g < W1.heap.size) : BoxAt W1 g W1.drew := ⟨fun _ => rfl, h⟩
theorem BoxAt.below {W1 w w' : World} {g : Nat} (h : BoxAt W1 g w) (hb : Below w.heap.size w w') : BoxAt W1 g w' := ⟨fun o => (hb.cell (p := ⟨g, o, none⟩) h.2).trans (h.1 o), Nat.lt_of_lt_of_le h.2 hb.size⟩
theorem BoxAt.alloc {W1 w : World} {g : Nat} (h : BoxAt W1 g w) (o : Obj) : BoxAt W1 g (w.alloc o) := h.below (below_alloc1 w o)
theorem BoxAt.set_ {W1 w : World} {g : Nat} (h : BoxAt W1 g w) {p : Addr} (hp : p.block ≠ g) (u : Value) : BoxAt W1 g (w.setCell p u) := ⟨fun o => (World.cell?_setCell_other w p ⟨g, o, none⟩ u (fun e => hp (by rw [e]))).trans (h.1 o), by simpa [World.setCell] using h.2⟩
theorem BoxAt.grown {W1 w w' : World} {g : Nat} {row : Option Nat} (h : BoxAt W1 g w) (hg : w.grownBy w' row) (hne : row ≠ some g) : BoxAt W1 g w' :=
  ⟨fun o => (World.cell?_of_block (w := w) (hg.block g h.2 (fun e => hne e.symm))).trans (h.1 o), Nat.lt_of_lt_of_le h.2 hg.size⟩
/-- What an append to the pieces of a variable leaves. -/
def Appended (base A : Nat) (w : World) (v : Value) (qs : List Pc) (e : Ending) (w' : World) : Prop :=
  e = .returned (.tuple #[]) ∧ ∃ v', Var w' A 62 v' ∧ OwnX eV (fun k => k = A) base 56 w' v' qs ∧ Only (fun k => k = A ∨ v.ownBlock = some k) w w' ∧ (∀ b, v'.ownBlock = some b → v.ownBlock = some b ∨ w.heap.size ≤ b)

theorem appended_of {w W3 w3 : World} {A base : Nat} {v u : Value} {ps : List Pc} {p : Pc} {xs : List Value} {g cap m : Nat} (hB3 : Below w.heap.size w W3) (hV : Var w3 A 62 v) (hne : v.ownBlock ≠ some A) (hlt : A < w.heap.size)
    (hc : Cells eV (fun k => k = A ∨ v.ownBlock = some k) w ps xs) (hu : Comm w u p.ss) (hf : Far (fun k => k = A ∨ v.ownBlock = some k) u p.ss) (hown : w3.ownsRow base 56 4 (.slice (some ⟨g, 0, none⟩) m cap) m (xs ++ eV p u)) (hm : m = ps.length + 1)
    (hgrow : W3.grownBy w3 v.ownBlock) (hat : v.ownBlock = some g ∨ g = W3.heap.size) : Appended base A w v (ps ++ [p]) (.returned (.tuple #[])) (w3.setCell ⟨A, 0, none⟩ (.slice (some ⟨g, 0, none⟩) m cap)) := by
  have hz := hB3.size
  have hg : g ≠ A := by
    rintro rfl
    rcases hat with h | h
    · exact hne h
    · omega
  have h1 := OwnX.push (X := fun k => k = A) (hc.below hB3) (hu.below hB3) hf hown hm hgrow hat
  refine ⟨rfl, _, hV.set_ _, ?_, ?_, fun b hb => ?_⟩
  · exact h1.only (S := fun k => k = A) ((Only.refl (fun k => k = A) w3).set (p := ⟨A, 0, none⟩) (.inr rfl) _) (fun b hb => .inl hb) (fun b hb e => by
      obtain rfl : g = b := by simpa [Value.ownBlock] using hb
      exact hg e) (fun b hb => .inl hb)
  · exact ((Only.of_below (S := fun k => k = A ∨ v.ownBlock = some k) hB3).grown hgrow (fun k hk => .inr (.inr hk))).set (p := ⟨A, 0, none⟩) (.inr (.inl rfl)) _
  · obtain rfl : g = b := by simpa [Value.ownBlock] using hb
    rcases hat with h | h
    · exact .inl h
    · exact .inr (by omega)

/-- The piece goes behind as it is. -/
theorem fappend_plain {w : World} {A base : Nat} {v u : Value} {ps : List Pc} {k bl ind : Int} {ss : List ByteArray} (hA : Var w A 62 v) (hO : OwnX eV (fun k => k = A) base 56 w v ps) (hbase : base ≤ w.heap.size)
    (hu : Comm w u ss) (hfu : Far (fun k => k = A ∨ v.ownBlock = some k) u ss) (hm : (ps.length : Int) ≤ 2147483646) (r : Bool) (hr : cleanB ps = r) (hk : r = true ∧ k ≠ 0 ∨ r = false ∧ k ≠ 2) :
    Calls Tryf.prog 42 #[.pointer (some ⟨A, 0, none⟩), .agg #[u, .int .i64 k, .int .i64 bl, .int .i64 ind]] w (Appended base A w v (ps ++ [⟨k, bl, ind, ss⟩])) := by
  obtain ⟨a, cap, rfl⟩ := hO.pcs.form
  obtain ⟨ua, ucap, rfl⟩ := hu.form
  have hB1 := below_alloc1 w (.cells #[.slice ua ss.length ucap, .int .i64 k, .int .i64 bl, .int .i64 ind] 56)
  have x0 := hA.lt
  have x1 := hA.cell
  have x2 := hA.free
  have HP1 := Lib.hid (hO.pcs.below hB1)
  have HR := Lib.hid hr
  have hm' : (ps.length : Int) ≤ 2147483647 := by omega
  obtain ⟨xs, hown, hcs⟩ := hO
  have hB3 : Below w.heap.size w (((w.alloc (.cells #[.slice ua ss.length ucap, .int .i64 k, .int .i64 bl, .int .i64 ind] 56)).alloc (.cells #[.slice ua ss.length ucap, .int .i64 k, .int .i64 bl, .int .i64 ind] 56)).drew) := (below_alloc2 _ _ _).drew
  have HO3 := Lib.hid (ownsRow_below hown hB3)
  have HC := Lib.hid hcs
  have HV3 := Lib.hid (hA.below hB3)
  have HNE := Lib.hid (hA.ne_ hown (by decide))
  have hnews : ∀ j c, (eV ⟨k, bl, ind, ss⟩ (.slice ua ss.length ucap))[j]? = some c → ((((w.alloc (.cells #[.slice ua ss.length ucap, .int .i64 k, .int .i64 bl, .int .i64 ind] 56)).alloc (.cells #[.slice ua ss.length ucap, .int .i64 k, .int .i64 bl, .int .i64 ind] 56)).drew)).cell? ((⟨w.heap.size + 1, 0, none⟩ : Addr).add j) = some c := by
    have := news4 (w := w.alloc (.cells #[.slice ua ss.length ucap, .int .i64 k, .int .i64 bl, .int .i64 ind] 56)) (t := 56) (l := eV ⟨k, bl, ind, ss⟩ (.slice ua ss.length ucap)) rfl
    simpa using this
  have HN := Lib.hid hnews; clear hnews
  have HE := Lib.hid (eV_one (p := ⟨k, bl, ind, ss⟩) hu)
  have HBZ := Lib.hid (show base ≤ ((((w.alloc (.cells #[.slice ua ss.length ucap, .int .i64 k, .int .i64 bl, .int .i64 ind] 56)).alloc (.cells #[.slice ua ss.length ucap, .int .i64 k, .int .i64 bl, .int .i64 ind] 56)).drew)).heap.size by simp; omega)
  obtain ⟨i0, hi0, hz0, hs0, hb0⟩ := info_parts infoE
  have HU := Lib.hid hu
  have HF := Lib.hid hfu
  clear hA hown hcs hu hr hfu
  rcases hk with ⟨rfl, hk⟩ | ⟨rfl, hk⟩
  · have hk1 : (k == 0) = false := by simpa using hk
    have HK := Lib.hid hk; clear hk
    go_enter Tryf.func42, Tryf.ntmps42
    go_wp2_with (go_at_call 48; refine (cleanE_is HP1.out hm' HR.out).mono ?_; rintro e w' ⟨rfl, rfl⟩)
    go_region_law ((refine step_append_lies _ (by rfl) (.tmp 79) (.tmp 81) 62 (by rfl) base 56 i0 (.agg #[.slice none 0 0, .int .i64 0, .int .i64 0, .int .i64 0]) 4 48 Tryf.underlying62 hi0 hz0 hs0 hb0 rfl (by omega) (.slice a ps.length cap) ps.length xs (by simp [Act.eval]) HO3.out ⟨w.heap.size + 1, 0, none⟩ 1 1 (eV ⟨k, bl, ind, ss⟩ (.slice ua ss.length ucap)) (by simp [Act.eval]) rfl HN.out HE.out (by omega) (by unfold maxLen; omega) (by omega) HBZ.out _ rfl ?_; intro g cap1 w3 hown1 hgrow1 hat1 hlt1; have HV4 := Lib.hid (var_grown HV3.out HNE.out hgrow1); have y1 := HV4.out.cell; have y2 := HV4.out.free))
    all_goals
      go_end0
      exact appended_of (p := ⟨k, bl, ind, ss⟩) hB3 HV4.out HNE.out x0 HC.out HU.out HF.out hown1 rfl hgrow1 hat1
  · have hk1 : (k == 2) = false := by simpa using hk
    have HK := Lib.hid hk; clear hk
    go_enter Tryf.func42, Tryf.ntmps42
    go_wp2_with (go_at_call 48; refine (cleanE_is HP1.out hm' HR.out).mono ?_; rintro e w' ⟨rfl, rfl⟩)
    go_region_law ((refine step_append_lies _ (by rfl) (.tmp 79) (.tmp 81) 62 (by rfl) base 56 i0 (.agg #[.slice none 0 0, .int .i64 0, .int .i64 0, .int .i64 0]) 4 48 Tryf.underlying62 hi0 hz0 hs0 hb0 rfl (by omega) (.slice a ps.length cap) ps.length xs (by simp [Act.eval]) HO3.out ⟨w.heap.size + 1, 0, none⟩ 1 1 (eV ⟨k, bl, ind, ss⟩ (.slice ua ss.length ucap)) (by simp [Act.eval]) rfl HN.out HE.out (by omega) (by unfold maxLen; omega) (by omega) HBZ.out _ rfl ?_; intro g cap1 w3 hown1 hgrow1 hat1 hlt1; have HV4 := Lib.hid (var_grown HV3.out HNE.out hgrow1); have y1 := HV4.out.cell; have y2 := HV4.out.free))
    all_goals
      go_end0
      exact appended_of (p := ⟨k, bl, ind, ss⟩) hB3 HV4.out HNE.out x0 HC.out HU.out HF.out hown1 rfl hgrow1 hat1
end Go.Proofs.YthlnciihabhmaaaFmt
