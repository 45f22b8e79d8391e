/-
  A list of pieces that came in reads as a list of pieces. Conditions: none.
-/
import Derived.Test.YthlnciihabhmaaaPc
import Derived.Deep.Slices
import Derived.Deep.Fields
import Derived.ChangeSame
namespace Go.Proofs.Ythlnciihabhmaaa
open Go.ChangeShapes Go.WideShapes Go.ChangeAt Go.RowKit Go.Joins Go.Deep

section
variable {H : Type} {enc : TypeId × Value → H} {P : Program} {w : World} {base : Nat} {spare : Nat → Bool} {held : Bool}
theorem open_slice_fields {t e : TypeId} {fs : Array Field} {fuel : Nat} {cs : List Value} {x : DataW H × List MemPlace} (ht : P.underlying t = some (.slice e)) (he : P.underlying e = some (.struct fs))
    (hone : oneCellFields P fs = true) (hC : P.cellsOf e = fs.size) (h : DataW.trod enc P w base spare held fuel t cs = some x) :
    (cs = [.slice none 0 0] ∧ x = (.nil, [])) ∨
    ∃ (a : Addr) (len cap m : Nat) (D : Nat → DataW H) (Pl : Nat → List MemPlace), cs = [.slice (some a) len cap] ∧ base ≤ a.block ∧ len ≤ cap ∧ cap ≤ maxLen ∧ m = (if spare a.block then cap else len) ∧
      x = (.slice ((List.range len).map D) ((List.range (m - len)).map fun j => D (len + j)), MemPlace.row a (m * fs.size) ++ (List.range m).flatMap Pl) ∧
      ∀ i, i < m → ∃ (ys : List (DataW H × List MemPlace)) (n : Nat), D i = .agg (ys.map (·.1)) ∧ Pl i = ys.flatMap (·.2) ∧ ys.length = fs.size ∧
        ∀ (j : Nat) (f : Field), fs[j]? = some f → ∃ (v : Value) (y : DataW H × List MemPlace), w.cell? (a.add (i * fs.size + j)) = some v ∧ ys[j]? = some y ∧ DataW.trod enc P w base spare held n f.type [v] = some y := by
  rcases open_slice ht h with h0 | ⟨a, len, cap, m, n, D, Pl, hcs, hb, hl, hm, hmm, hx, hi⟩
  · exact .inl h0
  · refine .inr ⟨a, len, cap, m, D, Pl, hcs, hb, hl, hm, hmm, by rw [hC] at hx; exact hx, fun i him => ?_⟩
    obtain ⟨cs', hc, ht'⟩ := hi i him
    rw [hC] at hc
    obtain ⟨ys, n', hn', hy, hlen, hyl, hf⟩ := DataW.trod_struct he ht'
    obtain ⟨_, hcl, hat⟩ := World.cells?_some hc
    simp only [Prod.mk.injEq] at hy
    refine ⟨ys, n', hy.1, hy.2, hyl, fun j f hj => ?_⟩
    obtain ⟨ho, hk⟩ := hone_of hone j f hj
    have hjl : j < fs.size := (Array.getElem?_eq_some_iff.1 hj).1
    have hcell := hat j hjl
    have hv : cs'[j]? = some (cs'[j]'(by omega)) := List.getElem?_eq_getElem (by omega)
    have h1 := hf j f hj
    rw [ho, hk] at h1
    have hone' : (cs'.drop j).take 1 = [cs'[j]'(by omega)] := by
      rw [List.drop_eq_getElem_cons (by omega)]
      rfl
    rw [hone'] at h1
    have hys : ys[j]? = some (ys[j]'(by omega)) := List.getElem?_eq_getElem (by omega)
    refine ⟨_, _, ?_, hys, h1.trans hys⟩
    rw [← Go.Deep.add_add, hcell, hv]
end

theorem collect {α : Type} {R : Nat → α → Prop} : ∀ {n : Nat}, (∀ i, i < n → ∃ x, R i x) → ∃ l : List α, l.length = n ∧ ∀ i x, l[i]? = some x → R i x
  | 0, _ => ⟨[], rfl, fun i x h => by simp at h⟩
  | n + 1, h => by
    obtain ⟨l, hl, hr⟩ := collect (n := n) fun i hi => h i (by omega)
    obtain ⟨x, hx⟩ := h n (by omega)
    refine ⟨l ++ [x], by simp [hl], fun i y hy => ?_⟩
    by_cases e : i = n
    · subst e
      have : y = x := by
        rw [List.getElem?_append_right (by omega)] at hy
        simpa [hl, eq_comm] using hy
      exact this ▸ hx
    · have hlt : i < n + 1 := by
        have := (List.getElem?_eq_some_iff.1 hy).1
        simpa [hl] using this
      rw [List.getElem?_append_left (by omega)] at hy
      exact hr i y hy
theorem cells_of {f : Pc → Value → List Value} {w : World} : ∀ (l : List (Pc × Value)), (∀ x ∈ l, Comm w x.2 x.1.ss) → Cells f (fun _ => False) w (l.map Prod.fst) (l.flatMap fun x => f x.1 x.2)
  | [], _ => rfl
  | x :: l, h => ⟨x.2, _, h x (by simp), Far.no _ _, cells_of l (fun y hy => h y (by simp [hy])), rfl⟩
theorem flat4 {f : Pc → Value → List Value} (hf4 : ∀ p u, (f p u).length = 4) : ∀ (l : List (Pc × Value)) (j : Nat) (c : Value), (l.flatMap fun x => f x.1 x.2)[j]? = some c → ∃ i r x, j = i * 4 + r ∧ r < 4 ∧ l[i]? = some x ∧ (f x.1 x.2)[r]? = some c
  | [], j, c, h => by simp at h
  | x :: l, j, c, h => by
    rw [List.flatMap_cons] at h
    by_cases hj : j < 4
    · rw [List.getElem?_append_left (by rw [hf4]; exact hj)] at h
      exact ⟨0, j, x, by omega, hj, rfl, h⟩
    · rw [List.getElem?_append_right (by rw [hf4]; omega), hf4] at h
      obtain ⟨i, r, y, e, hr, hy, hc⟩ := flat4 hf4 l _ c h
      exact ⟨i + 1, r, y, by omega, hr, by simpa using hy, hc⟩

set_option maxRecDepth 100000 in
theorem fieldsPiece : ∃ fs : Array Field, Try.prog.underlying 29 = some (.struct fs) ∧ oneCellFields Try.prog fs = true ∧ Try.prog.cellsOf 29 = fs.size ∧ fs.size = 4 ∧ (fs.map Field.type) = #[3, 3, 3, 27] :=
  ⟨_, Try.underlying29, by kernel_rfl, by kernel_rfl, rfl, by simp⟩
set_option maxRecDepth 100000 in
theorem open_pcs {H : Type} {enc : TypeId × Value → H} {W : World} {base fuel : Nat} {sp : Nat → Bool} {held : Bool} {v : Value} {x : DataW H × List MemPlace}
    (h : DataW.trod enc Try.prog W base sp held fuel 22 [v] = some x) : ∃ l : List Pc, Pcs pV W v l ∧ l.length ≤ maxLen ∧ ∀ p ∈ l, (p.ss.length : Int) ≤ 9223372036854775807 := by
  obtain ⟨fs, hu, hone, hC, hn, hty⟩ := fieldsPiece
  rcases open_slice_fields Try.underlying22 hu hone hC h with ⟨e, _⟩ | ⟨a, len, cap, m, D, Pl, e, hb, hlc, hcm, hm, _, hi⟩
  · exact ⟨[], ⟨none, 0, [], by simpa using e, by simp, rfl, fun h => by simp at h⟩, by simp, by simp⟩
  · have ev : v = .slice (some a) len cap := by simpa using e
    subst ev
    have hlen : len ≤ m := by rw [hm]; split <;> omega
    rw [hn] at hi
    have ty : ∀ (j : Nat) (t : TypeId), #[3, 3, 3, 27][j]? = some t → ∃ f : Field, fs[j]? = some f ∧ f.type = t := by
      intro j t hj
      rw [← hty, Array.getElem?_map] at hj
      obtain ⟨f, hf, e⟩ := Option.map_eq_some_iff.1 hj
      exact ⟨f, hf, e⟩
    have one : ∀ i, i < len → ∃ p : Pc × Value, (Comm W p.2 p.1.ss ∧ (p.1.ss.length : Int) ≤ 9223372036854775807) ∧ ∀ r c, (pV p.1 p.2)[r]? = some c → W.cell? (a.add (i * 4 + r)) = some c := by
      intro i hil
      obtain ⟨ys, n, _, _, _, hf⟩ := hi i (by omega)
      obtain ⟨f0, g0, t0⟩ := ty 0 3 rfl
      obtain ⟨f1, g1, t1⟩ := ty 1 3 rfl
      obtain ⟨f2, g2, t2⟩ := ty 2 3 rfl
      obtain ⟨f3, g3, t3⟩ := ty 3 27 rfl
      obtain ⟨v0, y0, c0, _, k0⟩ := hf 0 f0 g0
      obtain ⟨v1, y1, c1, _, k1⟩ := hf 1 f1 g1
      obtain ⟨v2, y2, c2, _, k2⟩ := hf 2 f2 g2
      obtain ⟨v3, y3, c3, _, k3⟩ := hf 3 f3 g3
      rw [t0] at k0
      rw [t1] at k1
      rw [t2] at k2
      rw [t3] at k3
      obtain ⟨a0, e0, _, _⟩ := DataW.trod_int Try.underlying3 k0
      obtain ⟨a1, e1, _, _⟩ := DataW.trod_int Try.underlying3 k1
      obtain ⟨a2, e2, _, _⟩ := DataW.trod_int Try.underlying3 k2
      simp at e0 e1 e2
      subst e0 e1 e2
      obtain ⟨ss, h1, h2⟩ := comm_of_trod k3
      refine ⟨(⟨a0, a1, a2, ss⟩, v3), ⟨h1, h2⟩, fun r c hr => ?_⟩
      match r, hr with
      | 0, hr => obtain rfl : _ = c := by simpa [pV] using hr
                 exact c0
      | 1, hr => obtain rfl : _ = c := by simpa [pV] using hr
                 exact c1
      | 2, hr => obtain rfl : _ = c := by simpa [pV] using hr
                 exact c2
      | 3, hr => obtain rfl : _ = c := by simpa [pV] using hr
                 exact c3
      | r + 4, hr => simp [pV] at hr
    obtain ⟨l, hl, hr⟩ := collect one
    refine ⟨l.map Prod.fst, ⟨some a, cap, _, by simp [hl], by simp [hl]; omega, cells_of (f := pV) l (fun y hy => ?_), fun h0 => ?_⟩, by simp [hl]; omega, fun p hp => by
      obtain ⟨y, hy, rfl⟩ := List.mem_map.1 hp
      obtain ⟨i, hi⟩ := List.getElem?_of_mem hy
      exact (hr i y hi).1.2⟩
    · obtain ⟨i, hi⟩ := List.getElem?_of_mem hy
      exact (hr i y hi).1.1
    · have h0' : 0 < l.length := by simpa using h0
      have first := (hr 0 l[0] (List.getElem?_eq_getElem h0')).2 0 _ rfl
      obtain ⟨b, off, spot⟩ := a
      have hspot : spot = none := by simpa [Addr.add] using World.cell?_spot first
      subst hspot
      have hlt : b < W.heap.size := World.block_lt_of_cell? W ⟨b, off, none⟩ (by simpa [Addr.add] using first)
      refine ⟨b, off, rfl, hlt, fun j c hj => ?_⟩
      obtain ⟨i, r, y, rfl, _, hy, hc⟩ := flat4 pV4 l j c hj
      have := (hr i y hy).2 r c hc
      have hadd : (⟨b, off, none⟩ : Addr).add (i * 4 + r) = ⟨b, off + (i * 4 + r), none⟩ := by unfold Addr.add; split <;> simp_all
      rwa [hadd] at this
set_option maxRecDepth 100000 in
/-- An argument that is a list of pieces. -/
theorem open_arg {H : Type} {enc : TypeId × Value → H} {W : World} {base b0 : Nat} {sp : Nat → Bool} {held : Bool} {v : Value} {d : DataW H} {ps : List MemPlace} (hv : Value.okWide Try.prog W .any b0 22 v) (h : DataW.Trod enc Try.prog W base sp held 22 v d ps) :
    ∃ l : List Pc, Pcs pV W v l ∧ (l.length : Int) ≤ 9223372036854775807 ∧ ∀ p ∈ l, (p.ss.length : Int) ≤ 9223372036854775807 := by
  obtain ⟨a, n, c, rfl⟩ := okWide_slice Try.underlying22 hv
  obtain ⟨fuel, hf⟩ := h
  obtain ⟨l, h1, h2, h3⟩ := open_pcs hf
  exact ⟨l, h1, by unfold maxLen at h2; omega, h3⟩
end Go.Proofs.Ythlnciihabhmaaa
