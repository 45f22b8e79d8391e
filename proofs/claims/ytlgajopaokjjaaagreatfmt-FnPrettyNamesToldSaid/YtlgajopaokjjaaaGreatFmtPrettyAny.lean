/-
  PrettyFieldNames at any tree. Conditions: spec.Tree's.
-/
import Derived.Test.YtlgajopaokjjaaaGreatFmtPretty0
import Derived.Test.YtlgajopaokjjaaaGreatFmtPrettyIdx
import Derived.Test.YtlgajopaokjjaaaGreatFmtPrettyFld
import Derived.Test.YtlgajopaokjjaaaGreatFmtPassOk
import Derived.Test.YtlgajopaokjjaaaGreatFmtBase
namespace Go.Proofs.YtlgajopaokjjaaaGreatFmt
open Go.ChangeShapes Go.WideShapes Go.ChangeAt Go.RowKit Go.Joins
theorem chg2_over {t : Tr} (h : t.k ≠ 15) (h' : t.k ≠ 39) : chg 2 t = over (chg 2) t := by
  rw [chg_eq]
  have e : top 2 t = t := by simp [top, h, h']
  rw [e]; rfl
theorem chg2_no {t1 t2 : Tr} (h : ¬ (t2.k = 4 ∧ nameB t2.tx.data.toList = true)) : chg 2 (.mk 15 ByteArray.empty 0 false [t1, t2]) = over (chg 2) (.mk 15 ByteArray.empty 0 false [t1, t2]) := by
  rw [chg_eq]
  have e : top 2 (.mk 15 ByteArray.empty 0 false [t1, t2]) = .mk 15 ByteArray.empty 0 false [t1, t2] := by
    unfold top
    rw [if_neg (fun h => absurd h.1 (by decide)), if_neg (fun h => absurd h.1 (by decide)), if_pos ⟨rfl, rfl⟩]
    show (if t2.k = 4 ∧ nameB t2.tx.data.toList = true then _ else _) = _
    rw [if_neg h]
  rw [e]; rfl
theorem chg2_yes (t1 : Tr) {tx : ByteArray} {op : Int} (h : nameB tx.data.toList = true) : chg 2 (.mk 15 ByteArray.empty 0 false [t1, .mk 4 tx op false []]) = .mk 16 tx 0 false [chg 2 t1] := by
  rw [chg_eq]
  have e : top 2 (.mk 15 ByteArray.empty 0 false [t1, .mk 4 tx op false []]) = .mk 16 tx 0 false [t1] := by
    unfold top
    rw [if_neg (fun h => absurd h.1 (by decide)), if_neg (fun h => absurd h.1 (by decide)), if_pos ⟨rfl, rfl⟩]
    show (if (4 : Int) = 4 ∧ nameB tx.data.toList = true then _ else _) = _
    rw [if_pos ⟨rfl, h⟩]
    rfl
  rw [e]; rfl
theorem noded_wide {w w2 w' : World} {S S' T : Nat → Prop} {t : Tr} {y : TypeId} {b : Nat} {e : Ending} (h : Noded w2 S' t y b e w') (hW : Within w w2 T) (hT : ∀ k, T k → S k) (hS : ∀ k, S' k → w.heap.size ≤ k ∨ S k) : Noded w S t y b e w' :=
  ⟨h.1, (hW.mono (fun k hk _ => hT k hk)).trans h.2.1 (fun k hk hl => (hS k hk).elim (fun h => absurd hl (by omega)) id), h.2.2.mono (fun k hk _ => by
    rcases hk with hk | hk
    · have := hW.size
      exact .inl (by omega)
    · by_cases hl : k < w.heap.size
      · exact (hS k hk.1).elim (fun h => .inl h) (fun h => .inr ⟨h, hl⟩)
      · exact .inl (by omega))⟩
set_option maxRecDepth 100000 in
theorem pretty_index {cb : Nat} {w : World} {S : Nat → Prop} {t : Tr} {b : Nat} (hp : PassAt 39 cb w) (hn : ¬ S cb) (ha : Ast w S t 88 b) (V : ∀ s ∈ t.subs, VisitOk 59 35 39 cb s (chg 2 s)) :
    Calls Tryz.prog 103 #[.pointer (some ⟨cb, 0, none⟩), .iface 35 (.pointer (some ⟨cb, 0, none⟩)), .pointer (some ⟨b, 0, none⟩), .nilIface] w fun e w' => Noded w S (chg 2 t) 88 b e w' := by
  cases ha with
  | dot b i tx p0 p1 p2 p3 n0 n1 n2 n3 hS hi hbi s1 hb hid a1 =>
    rename_i S1 t1 y1 b1
    rw [chg2_over (by simp [Tr.k]) (by simp [Tr.k])]
    exact (pretty_dot (cell_of (j := 1) hb rfl) hp (Q := fun e w' => Noded w S (.mk 16 tx 0 false [chg 2 t1]) 88 b e w') ((base_dot (prettyP cb) _ i tx hS hi hbi s1 hid a1 (V t1 (by simp [Tr.subs])) hb hp hn).mono fun e w' h => ⟨h.1, h⟩)).mono fun e w' h => h.2
  | index b p0 p1 p2 p3 n0 n1 n2 n3 hS s1 s2 d12 hb a1 a2 =>
    rename_i S1 S2 t1 t2 y1 y2 b1 b2
    have v1 := V t1 (by simp [Tr.subs])
    have v2 := V t2 (by simp [Tr.subs])
    by_cases hy : y2 = 162
    · have hA2 := a2
      subst hy
      cases a2 with
      | str b2 tx op q0 q1 m0 m1 hS2 hb2 =>
        have hbb : ¬ b = b2 := fun e => (s2 b2 hS2).2 e.symm
        cases hnm : nameB tx.data.toList with
        | false =>
          rw [chg2_no (by simp [Tr.tx, hnm])]
          refine (pretty_no (cell_of (j := 1) hb rfl) (cell_of (j := 0) hb2 rfl) hnm hp (Q := fun e w' => Noded w S (.mk 15 ByteArray.empty 0 false [chg 2 t1, chg 2 (.mk 4 tx op false [])]) 88 b e w') (fun w1 hb1 => ?_)).mono fun e w' h => h.2
          have hp1 : PassAt 39 cb w1 := (hb1.block cb (heap_lt hp)).trans hp
          refine (base_index (prettyP cb) _ (S := S) hS s1 (a1.keep (fun _ h _ => h) (fun k _ hk => hb1.block k hk)) v1 s2 (hA2.keep (fun _ h _ => h) (fun k _ hk => hb1.block k hk)) v2 d12 ((hb1.block b (heap_lt hb)).trans hb) hp1 hn).mono fun e w' h => ⟨h.1, noded_wide h (Within.of_below hb1 (fun _ => False)) (fun _ h => h.elim) (fun k hk => .inr hk)⟩
        | true =>
          rw [chg2_yes t1 hnm]
          refine (pretty_yes hp (fun e => hn (e ▸ hS)) hbb hb (cell_of (j := 0) hb2 rfl) (cell_of (j := 3) hb2 rfl) hnm (Q := fun e w' => Noded w S (.mk 16 tx 0 false [chg 2 t1]) 88 b e w') (fun w2 i hi hrb hid hW => ?_)).mono fun e w' h => h.2
          have zb := heap_lt hb
          have hp2 : PassAt 39 cb w2 := (hW.block cb (heap_lt hp) (fun e => hn (e ▸ hS))).trans hp
          refine (base_dot (prettyP cb) _ (S := fun k => S k ∨ k = i) i tx (.inl hS) (.inr rfl) (by omega) (S1 := fun k => S1 k ∧ k < w.heap.size) (fun k hk => ⟨.inl (s1 k hk.1).1, (s1 k hk.1).2, by omega⟩) hid (a1.within hW (fun k hk e => (s1 k hk).2 e)) v1 hrb hp2 (fun h => h.elim hn (fun e => by have := heap_lt hp; omega))).mono fun e w' h => ⟨h.1, noded_wide h hW (fun k hk => hk ▸ hS) (fun k hk => hk.elim .inr (fun e => .inl (by omega)))⟩
    · rw [chg2_no (fun h => hy (a2.is_string.2 h.1))]
      exact (pretty_other (cell_of (j := 1) hb rfl) hy hp (Q := fun e w' => Noded w S (.mk 15 ByteArray.empty 0 false [chg 2 t1, chg 2 t2]) 88 b e w') ((base_index (prettyP cb) _ hS s1 a1 v1 s2 a2 v2 d12 hb hp hn).mono fun e w' h => ⟨h.1, h⟩)).mono fun e w' h => h.2
theorem string_row {w : World} {S : Nat → Prop} {t : Tr} {y : TypeId} {b : Nat} (h : Ast w S t y b) (hk : t.k = 4) : ∃ tx op q m, t = .mk 4 tx op false [] ∧ y = 162 ∧ w.cell? ⟨b, 0, none⟩ = some (.string tx) ∧ w.cell? ⟨b, 3, none⟩ = some (.slice q 0 m) := by
  cases h with
  | str b tx op p0 p1 n0 n1 hS hb => exact ⟨tx, op, p0, n0, rfl, rfl, cell_of (j := 0) hb rfl, cell_of (j := 3) hb rfl⟩
  | _ => simp [Tr.k] at hk
theorem chg2_str {op : Int} {fl : Bool} {t1 t2 : Tr} (h : nameB t1.tx.data.toList = true) : chg 2 (.mk 39 ByteArray.empty op fl [t1, t2]) = .mk 37 t1.tx op fl [chg 2 t2] := by
  rw [chg_eq]
  have e : top 2 (.mk 39 ByteArray.empty op fl [t1, t2]) = .mk 37 t1.tx op fl [t2] := by
    unfold top
    rw [if_neg (fun h => absurd h.1 (by decide)), if_neg (fun h => absurd h.1 (by decide)), if_neg (fun h => absurd h.2 (by simp [Tr.k])), if_pos ⟨rfl, rfl⟩]
    show (if nameB t1.tx.data.toList = true then _ else _) = _
    rw [if_pos h]
    rfl
  rw [e]; rfl
theorem chg2_strNo {op : Int} {fl : Bool} {t1 t2 : Tr} (h : nameB t1.tx.data.toList = false) : chg 2 (.mk 39 ByteArray.empty op fl [t1, t2]) = .mk 39 ByteArray.empty op fl [chg 2 t1, chg 2 t2] := by
  rw [chg_eq]
  have e : top 2 (.mk 39 ByteArray.empty op fl [t1, t2]) = .mk 39 ByteArray.empty op fl [t1, t2] := by
    unfold top
    rw [if_neg (fun h => absurd h.1 (by decide)), if_neg (fun h => absurd h.1 (by decide)), if_neg (fun h => absurd h.2 (by simp [Tr.k])), if_pos ⟨rfl, rfl⟩]
    show (if nameB t1.tx.data.toList = true then _ else _) = _
    rw [if_neg (by simp [h])]
  rw [e]; rfl
theorem chg2_fldId {s t : Tr} (h : s = .mk 37 s.tx s.op s.fl [t]) : chg 2 s = .mk 37 s.tx s.op s.fl [chg 2 t] := by
  have hk : s.k = 37 := by rw [h]; rfl
  rw [chg2_over (by omega) (by omega)]
  unfold over
  rw [hk, show s.subs = [t] from by rw [h]; rfl]
  rfl
set_option maxRecDepth 100000 in
theorem pretty_field {cb : Nat} {s : Tr} (h4 : ∀ t1 t2, s.subs = [t1, t2] → t1.k = 4) (ih : ∀ u ∈ s.subs, VisitOk 59 35 39 cb u (chg 2 u)) : FldOk 104 35 39 cb s (chg 2 s) := by
  intro w S1 S2 g o cur Fd hp nc1 nc2 hgc hrow hid hg n1 n2 d a1 a2
  have zg := heap_lt hg
  rcases hrow with ⟨c, t, hs, hc, hr⟩ | ⟨t1, t2, hs, hc, hr⟩
  · have e : s.subs = [t] := by rw [hs]; rfl
    rw [chg2_fldId hs]
    exact (pretty_fldId (cell_of hg (hr 15 _ rfl)) hp (Q := fun e w' => FldDone w S1 S2 g o cur Fd (.mk 37 s.tx s.op s.fl [chg 2 t]) e w')
      ((base_fieldId (prettyP cb) (prettyM cb).mFieldParams _ (ih t (by rw [e]; simp)) w S1 S2 g o cur Fd hc hr (hid c hc).1 hg n2 (a2 t (by rw [e]; rfl)) hp nc2 hgc).mono fun e w' h => ⟨h.1, h⟩)).mono fun e w' h => h.2
  · have e : s.subs = [t1, t2] := by rw [hs]; rfl
    have A1 := a1 _ _ _ _ _ hs
    have A2 := a2 t2 (by rw [e]; rfl)
    have v1 := ih t1 (by rw [e]; simp)
    have v2 := ih t2 (by rw [e]; simp)
    obtain ⟨tx, op, q, m, rfl, hy, c0, c3⟩ := string_row A1 (h4 t1 t2 e)
    have x6 := hr 6 _ rfl
    rw [hy] at x6
    have hS1 : S1 Fd.b1 := A1.root
    have hgb : ¬ g = Fd.b1 := fun e => n1 (e ▸ hS1)
    cases hnm : nameB tx.data.toList with
    | false =>
      have e2 : chg 2 s = .mk 39 ByteArray.empty s.op s.fl [chg 2 (.mk 4 tx op false []), chg 2 t2] := by
        rw [hs]; exact chg2_strNo hnm
      rw [e2]
      refine (pretty_fldNo (cell_of hg (hr 15 _ rfl)) (cell_of hg x6) c0 hnm hp (Q := fun e w' => FldDone w S1 S2 g o cur Fd (.mk 39 ByteArray.empty s.op s.fl [chg 2 (.mk 4 tx op false []), chg 2 t2]) e w') (fun w1 hb1 => ?_)).mono fun e w' h => h.2
      refine (base_fieldStr (prettyP cb) (prettyM cb).mFieldParams _ v1 v2 w1 (fun k => S1 k ∧ k < w.heap.size) (fun k => S2 k ∧ k < w.heap.size) g o cur Fd hc hr ((hb1.block g zg).trans hg) (fun h => n1 h.1) (fun h => n2 h.1) (fun k h h' => d k h.1 h'.1)
        (A1.keep (fun _ h hl => ⟨h, hl⟩) (fun k _ hk => hb1.block k hk)) (A2.keep (fun _ h hl => ⟨h, hl⟩) (fun k _ hk => hb1.block k hk)) ((hb1.block cb (heap_lt hp)).trans hp) (fun h => nc1 h.1) (fun h => nc2 h.1) hgc).mono fun e w' h => ⟨h.1, ?_⟩
      exact flddone_from h (Within.of_below hb1 _) (fun _ _ => rfl) zg (fun c hcc => by rw [hc] at hcc; cases hcc)
    | true =>
      have e2 : chg 2 s = .mk 37 tx s.op s.fl [chg 2 t2] := by
        rw [hs]; exact chg2_str hnm
      rw [e2]
      refine (pretty_fldYes hp (Ne.symm hgc) hgb hg (hr 1 _ rfl) (hr 3 _ rfl) x6 (hr 15 _ rfl) c0 c3 hnm (Q := fun e w' => FldDone w S1 S2 g o cur Fd (.mk 37 tx s.op s.fl [chg 2 t2]) e w') (fun w2 i hi hrow2 hid2 hW => ?_)).mono fun e w' h => h.2
      have hrr : ∀ j v, (({ Fd with id := some i, p1 := q, n1 := m } : Fld).rowId s.op s.fl i)[j]? = some v → ((((cur.setIfInBounds (o + 15) (.int .i64 1)).setIfInBounds (o + 1) (.pointer (some ⟨i, 0, none⟩))).setIfInBounds (o + 3) (.slice q 0 m)).setIfInBounds (o + 6) .nilIface)[o + j]? = some v :=
        row_set (i := 6) (row_set (i := 3) (row_set (i := 1) (row_set (i := 15) hr (by simp [Fld.rowStr])) (by simp [Fld.rowStr])) (by simp [Fld.rowStr])) (by simp [Fld.rowStr])
      refine (base_fieldId (prettyP cb) (prettyM cb).mFieldParams _ v2 w2 (fun k => S1 k ∧ k < w.heap.size) (fun k => S2 k ∧ k < w.heap.size) g o _ { Fd with id := some i, p1 := q, n1 := m } rfl hrr hid2 hrow2 (fun h => n2 h.1)
        (A2.keep (fun _ h hl => ⟨h, hl⟩) (fun k hk hl => hW.block k hl (fun e => n2 (e ▸ hk)))) ((hW.block cb (heap_lt hp) (Ne.symm hgc)).trans hp) (fun h => nc2 h.1) hgc).mono fun e w' h => ⟨h.1, ?_⟩
      refine flddone_from h hW (fun j hj => ?_) zg (fun c hcc => ?_)
      · rw [Array.getElem?_setIfInBounds_ne (by omega), Array.getElem?_setIfInBounds_ne (by omega), Array.getElem?_setIfInBounds_ne (by omega), Array.getElem?_setIfInBounds_ne (by omega)]
      · have e3 : i = c := by simpa using hcc
        subst e3
        exact .inr ⟨hi, hid2⟩
theorem Ast.no39 {w : World} {S : Nat → Prop} {t : Tr} {y : TypeId} {b : Nat} (h : Ast w S t y b) : t.k ≠ 39 := by cases h <;> simp [Tr.k]
set_option maxRecDepth 100000 in
theorem pretty_step {cb : Nat} {t : Tr} (hbd : Bnd 6 t) (K : Kids (fun s => VisitOk 59 35 39 cb s (chg 2 s)) (fun s => FldOk 104 35 39 cb s (chg 2 s)) t) : VisitOk 59 35 39 cb t (chg 2 t) := by
  intro w S y b c j cs T hp hn hcc ha hSc hc hj
  exact visit_by (prettyP cb) (prettyM cb) _ hp hn ha hSc hc hj (fun w1 hp1 ha1 => node_base (prettyP cb) (prettyM cb) (chg 2) (fun t => by rw [chg2_over (by simp [Tr.k]) (by simp [Tr.k])]; rfl) hp1 (fun h => hn h.1) ha1 hbd K.ih K.ih2 K.fld K.n32 K.n32' (fun _ h15 _ => chg2_over h15 ha1.no39)
    (fun hk => by
      cases ha1 with
      | parens b p0 p1 p2 n0 n1 n2 hS s1 hb a1 =>
        rw [chg2_over (by simp [Tr.k]) (by simp [Tr.k])]
        exact base_parens (prettyP cb) _ hS s1 a1 (K.ih (by simp [Tr.k]) _ (by simp [Tr.subs]) (K.n32 (by simp [Tr.k]) _ (by simp [Tr.subs]))) hb hp1 (fun h => hn h.1)
      | _ => simp [Tr.k] at hk)
    (fun hk => by
      have hy := ha1.is_index.2 hk
      subst hy
      exact pretty_index hp1 (fun h => hn h.1) ha1 (fun s hs => K.ih (by omega) s hs (K.n32 (by omega) s hs))))
theorem pretty_any (cb : Nat) {t : Tr} (ok : Ok t) : VisitOk 59 35 39 cb t (chg 2 t) :=
  ok_kids2 (V := (fun s => VisitOk 59 35 39 cb s (chg 2 s))) (W := (fun s => FldOk 104 35 39 cb s (chg 2 s))) (fun hbd K => pretty_step hbd K) (fun h h4 => pretty_field h4 h.2) ok
end Go.Proofs.YtlgajopaokjjaaaGreatFmt
