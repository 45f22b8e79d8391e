/-
  A node that came in reads as a tree. Conditions: none.
-/
import Derived.Test.YtceepfnjdkfjnaaFmtTree
import Derived.Deep.Slices
import Derived.Deep.Fields
import Derived.ChangeSame
namespace Go.Proofs.YtceepfnjdkfjnaaFmt
open Go.ChangeShapes Go.WideShapes Go.ChangeAt Go.RowKit Go.Joins Go.Deep

section
variable {H : Type} {enc : TypeId × Value → H} {P : Program} {w : World} {base : Nat} {spare : Nat → Bool} {held : Bool}
theorem open_slice_fields {t e : TypeId} {fs : Array Field} {fuel : Nat} {cs : List Value} {x : DataW H × List MemPlace} (ht : P.underlying t = some (.slice e)) (he : P.underlying e = some (.struct fs))
    (hone : oneCellFields P fs = true) (hC : P.cellsOf e = fs.size) (h : DataW.trod enc P w base spare held fuel t cs = some x) :
    (cs = [.slice none 0 0] ∧ x = (.nil, [])) ∨
    ∃ (a : Addr) (len cap m : Nat) (D : Nat → DataW H) (Pl : Nat → List MemPlace), cs = [.slice (some a) len cap] ∧ base ≤ a.block ∧ len ≤ cap ∧ cap ≤ maxLen ∧ m = (if spare a.block then cap else len) ∧
      x = (.slice ((List.range len).map D) ((List.range (m - len)).map fun j => D (len + j)), MemPlace.row a (m * fs.size) ++ (List.range m).flatMap Pl) ∧
      ∀ i, i < m → ∃ (ys : List (DataW H × List MemPlace)) (n : Nat), D i = .agg (ys.map (·.1)) ∧ Pl i = ys.flatMap (·.2) ∧ ys.length = fs.size ∧
        ∀ (j : Nat) (f : Field), fs[j]? = some f → ∃ (v : Value) (y : DataW H × List MemPlace), w.cell? (a.add (i * fs.size + j)) = some v ∧ ys[j]? = some y ∧ DataW.trod enc P w base spare held n f.type [v] = some y := by
  rcases open_slice ht h with h0 | ⟨a, len, cap, m, n, D, Pl, hcs, hb, hl, hm, hmm, hx, hi⟩
  · exact .inl h0
  · refine .inr ⟨a, len, cap, m, D, Pl, hcs, hb, hl, hm, hmm, by rw [hC] at hx; exact hx, fun i him => ?_⟩
    obtain ⟨cs', hc, ht'⟩ := hi i him
    rw [hC] at hc
    obtain ⟨ys, n', hn', hy, hlen, hyl, hf⟩ := DataW.trod_struct he ht'
    obtain ⟨_, hcl, hat⟩ := World.cells?_some hc
    simp only [Prod.mk.injEq] at hy
    refine ⟨ys, n', hy.1, hy.2, hyl, fun j f hj => ?_⟩
    obtain ⟨ho, hk⟩ := hone_of hone j f hj
    have hjl : j < fs.size := (Array.getElem?_eq_some_iff.1 hj).1
    have hcell := hat j hjl
    have hv : cs'[j]? = some (cs'[j]'(by omega)) := List.getElem?_eq_getElem (by omega)
    have h1 := hf j f hj
    rw [ho, hk] at h1
    have hone' : (cs'.drop j).take 1 = [cs'[j]'(by omega)] := by
      rw [List.drop_eq_getElem_cons (by omega)]
      rfl
    rw [hone'] at h1
    have hys : ys[j]? = some (ys[j]'(by omega)) := List.getElem?_eq_getElem (by omega)
    refine ⟨_, _, ?_, hys, h1.trans hys⟩
    rw [← Go.Deep.add_add, hcell, hv]
theorem weightsAll_mem {e : TypeId} : ∀ {l : List (DataW H)} {d : DataW H} {n : Nat}, d ∈ l → n ∈ d.weights P e → n ∈ DataW.weightsAll P e l
  | [], _, _, hd, _ => by cases hd
  | x :: l, d, n, hd, hn => by
    simp only [DataW.weightsAll, List.mem_append]
    rcases List.mem_cons.1 hd with rfl | hd
    · exact .inl hn
    · exact .inr (weightsAll_mem hd hn)
end

theorem collect {α : Type} {R : Nat → α → Prop} : ∀ {n : Nat}, (∀ i, i < n → ∃ x, R i x) → ∃ l : List α, l.length = n ∧ ∀ i x, l[i]? = some x → R i x
  | 0, _ => ⟨[], rfl, fun i x h => by simp at h⟩
  | n + 1, h => by
    obtain ⟨l, hl, hr⟩ := collect (n := n) fun i hi => h i (by omega)
    obtain ⟨x, hx⟩ := h n (by omega)
    refine ⟨l ++ [x], by simp [hl], fun i y hy => ?_⟩
    by_cases e : i = n
    · subst e
      have : y = x := by
        rw [List.getElem?_append_right (by omega)] at hy
        simpa [hl, eq_comm] using hy
      exact this ▸ hx
    · have hlt : i < n + 1 := by
        have := (List.getElem?_eq_some_iff.1 hy).1
        simpa [hl] using this
      rw [List.getElem?_append_left (by omega)] at hy
      exact hr i y hy

set_option maxRecDepth 100000 in
theorem fieldsNode : ∃ fs : Array Field, Tryf.prog.underlying 32 = some (.struct fs) ∧ oneCellFields Tryf.prog fs = true ∧ Tryf.prog.cellsOf 32 = fs.size ∧ fs.size = 5 ∧ (fs.map Field.type) = #[3, 9, 3, 4, 30] :=
  ⟨_, Tryf.underlying32, by kernel_rfl, by kernel_rfl, rfl, by simp⟩
set_option maxRecDepth 100000 in
theorem bytesNode : Tryf.prog.bytesOf 32 = 64 := by kernel_rfl
theorem data_string {l : List UInt8} {s : ByteArray} (h : (Lit.string s.data.toList) = .string l) : s.data.toList = l := by injection h
theorem open_subs {H : Type} {enc : TypeId × Value → H} {W : World} {base : Nat} {sp : Nat → Bool} {held : Bool} : ∀ (k : Nat) {fuel : Nat} {v : Value} {x : DataW H × List MemPlace}, SizeOf.sizeOf x.1 ≤ k →
    DataW.trod enc Tryf.prog W base sp held fuel 30 [v] = some x → (∀ m ∈ x.1.weights Tryf.prog 30, m ≤ reachBytes) → ∃ l : List Tr, Subs W (fun _ => True) l v ∧ l.length ≤ 2199023255488 ∧ ∀ t ∈ l, Bnd 2199023255488 t := by
  intro k
  induction k with
  | zero =>
    intro fuel v x hk
    exfalso
    cases hx : x.1 <;> rw [hx] at hk <;> simp at hk
  | succ k ih =>
    intro fuel v x hk h hw
    obtain ⟨fs, hu, hone, hC, hn, hty⟩ := fieldsNode
    rcases open_slice_fields Tryf.underlying30 hu hone hC h with ⟨e, _⟩ | ⟨a, len, cap, m, D, Pl, e, hb, hlc, hcm, hm, rfl, hi⟩
    · obtain rfl : v = .slice none 0 0 := by simpa using e
      exact ⟨[], .none _ _, by simp, by simp⟩
    · obtain rfl : v = .slice (some a) len cap := by simpa using e
      have hlen : len ≤ m := by rw [hm]; split <;> omega
      rw [hn] at hi
      have ty : ∀ (j : Nat) (t : TypeId), #[3, 9, 3, 4, 30][j]? = some t → ∃ f : Field, fs[j]? = some f ∧ f.type = t := by
        intro j t hj
        rw [← hty, Array.getElem?_map] at hj
        obtain ⟨f, hf, e⟩ := Option.map_eq_some_iff.1 hj
        exact ⟨f, hf, e⟩
      have hml : len ≤ 2199023255488 := by
        have := hw ((len + (m - len)) * 64) (by simp [DataW.weights, Tryf.underlying30, bytesNode])
        unfold reachBytes at this
        omega
      have one : ∀ i, i < len → ∃ p : Tr × Value, (Subs W (fun _ => True) p.1.subs p.2 ∧ Bnd 2199023255488 p.1) ∧ ∀ r c, (nV p.1 p.2)[r]? = some c → W.cell? (a.add (i * 5 + r)) = some c := by
        intro i hil
        obtain ⟨ys, n, hD, _, hyl, hf⟩ := hi i (by omega)
        obtain ⟨f0, g0, t0⟩ := ty 0 3 rfl
        obtain ⟨f1, g1, t1⟩ := ty 1 9 rfl
        obtain ⟨f2, g2, t2⟩ := ty 2 3 rfl
        obtain ⟨f3, g3, t3⟩ := ty 3 4 rfl
        obtain ⟨f4, g4, t4⟩ := ty 4 30 rfl
        obtain ⟨v0, y0, c0, _, k0⟩ := hf 0 f0 g0
        obtain ⟨v1, y1, c1, _, k1⟩ := hf 1 f1 g1
        obtain ⟨v2, y2, c2, _, k2⟩ := hf 2 f2 g2
        obtain ⟨v3, y3, c3, _, k3⟩ := hf 3 f3 g3
        obtain ⟨v4, y4, c4, z4, k4⟩ := hf 4 f4 g4
        rw [t0] at k0
        rw [t1] at k1
        rw [t2] at k2
        rw [t3] at k3
        rw [t4] at k4
        obtain ⟨a0, e0, _, _⟩ := DataW.trod_int Tryf.underlying3 k0
        obtain ⟨a1, e1, _, _⟩ := DataW.trod_string Tryf.underlying9 k1
        obtain ⟨a2, e2, _, _⟩ := DataW.trod_int Tryf.underlying3 k2
        obtain ⟨a3, e3, _⟩ := DataW.trod_bool Tryf.underlying4 k3
        simp at e0 e1 e2 e3
        subst e0 e1 e2 e3
        have hDm : D i ∈ (List.range len).map D := List.mem_map.2 ⟨i, List.mem_range.2 hil, rfl⟩
        have hym : y4.1 ∈ ys.map (·.1) := List.mem_map.2 ⟨y4, List.mem_of_getElem? z4, rfl⟩
        have hs1 : SizeOf.sizeOf (D i) < SizeOf.sizeOf ((List.range len).map D) := List.sizeOf_lt_of_mem hDm
        have hs2 : SizeOf.sizeOf y4.1 < SizeOf.sizeOf (ys.map (·.1)) := List.sizeOf_lt_of_mem hym
        have hs3 : SizeOf.sizeOf (D i) = 1 + SizeOf.sizeOf (ys.map (·.1)) := by rw [hD]; simp
        obtain ⟨l', h1, h2, h3⟩ := ih (x := y4) (by simp at hk; omega) k4 (fun m hm' => hw m (by
          simp only [DataW.weights, Tryf.underlying30, List.mem_cons, List.mem_append]
          refine .inr (.inl (weightsAll_mem hDm ?_))
          rw [hD]
          simp only [DataW.weights, hu]
          refine DataW.weights_mem_each (j := 4) (t := 30) (d := y4.1) ?_ ?_ m hm'
          · have : fs.toList[4]? = some f4 := by simpa using g4
            rw [List.getElem?_map, this, ← t4]; rfl
          · rw [List.getElem?_map, z4]; rfl))
        refine ⟨(.mk a0 a1 a2 a3 l', v4), ⟨h1, .mk _ h2 h3⟩, fun r c hr => ?_⟩
        match r, hr with
        | 0, hr => obtain rfl : _ = c := by simpa [nV] using hr
                   exact c0
        | 1, hr => obtain rfl : _ = c := by simpa [nV] using hr
                   exact c1
        | 2, hr => obtain rfl : _ = c := by simpa [nV] using hr
                   exact c2
        | 3, hr => obtain rfl : _ = c := by simpa [nV] using hr
                   exact c3
        | 4, hr => obtain rfl : _ = c := by simpa [nV] using hr
                   exact c4
        | r + 5, hr => simp [nV] at hr
      obtain ⟨l, hl, hr⟩ := collect one
      rcases Nat.eq_zero_or_pos len with h0 | h0
      · subst h0
        exact ⟨[], .none _ _, by simp, by simp⟩
      have h0' : 0 < l.length := by omega
      have first := (hr 0 l[0] (List.getElem?_eq_getElem h0')).2 0 _ rfl
      obtain ⟨b, off, spot⟩ := a
      have hspot : spot = none := by simpa [Addr.add] using World.cell?_spot first
      subst hspot
      have hadd : ∀ j, (⟨b, off, none⟩ : Addr).add j = ⟨b, off + j, none⟩ := fun j => by unfold Addr.add; split <;> simp_all
      have hlm : (l.map Prod.fst).length = len := by simp [hl]
      have hget : ∀ (i : Nat) (t : Tr), (l.map Prod.fst)[i]? = some t → ∃ u : Value, l[i]? = some (t, u) := by
        intro i t ht
        rw [List.getElem?_map] at ht
        obtain ⟨p, hp, rfl⟩ := Option.map_eq_some_iff.1 ht
        exact ⟨p.2, hp⟩
      refine ⟨l.map Prod.fst, ?_, by omega, fun t ht => ?_⟩
      · rw [← hlm]
        refine .row _ b off cap (fun i => ((l[i]?).map Prod.snd).getD undef) (by omega) (by omega) trivial (fun i t ht j c hj => ?_) (fun i t ht => ?_)
        · obtain ⟨u, hu'⟩ := hget i t ht
          have := (hr i _ hu').2 j c (by simpa [hu'] using hj)
          rwa [hadd] at this
        · obtain ⟨u, hu'⟩ := hget i t ht
          simpa [hu'] using (hr i _ hu').1.1
      · obtain ⟨p, hp, rfl⟩ := List.mem_map.1 ht
        obtain ⟨i, hi⟩ := List.getElem?_of_mem hp
        exact (hr i p hi).1.2

set_option maxRecDepth 100000 in
/-- An argument that is a node. -/
theorem open_node {H : Type} {enc : TypeId × Value → H} {W : World} {base : Nat} {v : Value} {d : DataW H} {ps : List MemPlace}
    (hv : Value.okWide Tryf.prog W .any base 32 v) (h : DataW.Trod enc Tryf.prog W 0 (fun _ => true) true 32 v d ps) (hw : ∀ m ∈ d.weights Tryf.prog 32, m ≤ reachBytes) :
    ∃ (t : Tr) (u : Value), v = .agg #[.int .i64 t.k, .string t.tx, .int .i64 t.op, .bool t.fl, u] ∧ Subs W (fun _ => True) t.subs u ∧ Bnd 2199023255488 t := by
  obtain ⟨cs, rfl, hsz⟩ := okWide_struct Tryf.underlying32 hv
  obtain ⟨fs, hu, hone, hC, hn, hty⟩ := fieldsNode
  have ty : ∀ (j : Nat) (t : TypeId), #[3, 9, 3, 4, 30][j]? = some t → ∃ f : Field, fs[j]? = some f ∧ f.type = t := by
    intro j t hj
    rw [← hty, Array.getElem?_map] at hj
    obtain ⟨f, hf, e⟩ := Option.map_eq_some_iff.1 hj
    exact ⟨f, hf, e⟩
  obtain ⟨fuel, hf⟩ := h
  obtain ⟨ys, n, _, hx, hlen, hyl, hfl⟩ := DataW.trod_struct hu hf
  simp only [Prod.mk.injEq] at hx
  obtain ⟨f0, g0, t0⟩ := ty 0 3 rfl
  obtain ⟨f1, g1, t1⟩ := ty 1 9 rfl
  obtain ⟨f2, g2, t2⟩ := ty 2 3 rfl
  obtain ⟨f3, g3, t3⟩ := ty 3 4 rfl
  obtain ⟨f4, g4, t4⟩ := ty 4 30 rfl
  have hc5 : cs.size = 5 := by rw [hsz, hC, hn]
  obtain ⟨c0, c1, c2, c3, c4, rfl⟩ : ∃ c0 c1 c2 c3 c4, cs = #[c0, c1, c2, c3, c4] := by
    rcases cs with ⟨l⟩
    match l, hc5 with
    | [a, b, c, d, e], _ => exact ⟨a, b, c, d, e, rfl⟩
  have cell : ∀ (j : Nat) (f : Field) (c : Value), fs[j]? = some f → [c0, c1, c2, c3, c4][j]? = some c → ∃ y, ys[j]? = some y ∧ DataW.trod enc Tryf.prog W 0 (fun _ => true) true n f.type [c] = some y := by
    intro j f c hj hc
    obtain ⟨ho, hk⟩ := hone_of hone j f hj
    have h1 := hfl j f hj
    rw [ho, hk] at h1
    have hjl : j < fs.size := (Array.getElem?_eq_some_iff.1 hj).1
    have hys : ys[j]? = some (ys[j]'(by omega)) := List.getElem?_eq_getElem (by omega)
    refine ⟨_, hys, ?_⟩
    rw [hys] at h1
    rw [← h1]
    congr 1
    have hjc := (List.getElem?_eq_some_iff.1 hc)
    obtain ⟨hjc, e⟩ := hjc
    show [c] = (List.drop j [c0, c1, c2, c3, c4]).take 1
    rw [List.drop_eq_getElem_cons hjc, e]
    rfl
  obtain ⟨y0, _, k0⟩ := cell 0 f0 c0 g0 rfl
  obtain ⟨y1, _, k1⟩ := cell 1 f1 c1 g1 rfl
  obtain ⟨y2, _, k2⟩ := cell 2 f2 c2 g2 rfl
  obtain ⟨y3, _, k3⟩ := cell 3 f3 c3 g3 rfl
  obtain ⟨y4, z4, k4⟩ := cell 4 f4 c4 g4 rfl
  rw [t0] at k0
  rw [t1] at k1
  rw [t2] at k2
  rw [t3] at k3
  rw [t4] at k4
  obtain ⟨a0, e0, _, _⟩ := DataW.trod_int Tryf.underlying3 k0
  obtain ⟨a1, e1, _, _⟩ := DataW.trod_string Tryf.underlying9 k1
  obtain ⟨a2, e2, _, _⟩ := DataW.trod_int Tryf.underlying3 k2
  obtain ⟨a3, e3, _⟩ := DataW.trod_bool Tryf.underlying4 k3
  simp at e0 e1 e2 e3
  subst e0 e1 e2 e3
  obtain ⟨l', h1, h2, h3⟩ := open_subs _ (x := y4) (Nat.le_refl _) k4 (fun m hm' => hw m (by
    rw [hx.1]
    simp only [DataW.weights, hu]
    refine DataW.weights_mem_each (j := 4) (t := 30) (d := y4.1) ?_ ?_ m hm'
    · have : fs.toList[4]? = some f4 := by simpa using g4
      rw [List.getElem?_map, this, ← t4]; rfl
    · rw [List.getElem?_map, z4]; rfl))
  exact ⟨.mk a0 a1 a2 a3 l', c4, rfl, h1, .mk _ h2 h3⟩
end Go.Proofs.YtceepfnjdkfjnaaFmt
