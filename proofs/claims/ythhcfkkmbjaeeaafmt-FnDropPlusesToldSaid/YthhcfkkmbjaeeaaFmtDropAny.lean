/-
  RemovePlusObject at any tree. Conditions: spec.Tree's.
-/
import Derived.Test.YthhcfkkmbjaeeaaFmtDrop0
import Derived.Test.YthhcfkkmbjaeeaaFmtDropVisit
import Derived.Test.YthhcfkkmbjaeeaaFmtDropPlus
import Derived.Test.YthhcfkkmbjaeeaaFmtPassOk
namespace Go.Proofs.YthhcfkkmbjaeeaaFmt
open Go.ChangeShapes Go.WideShapes Go.ChangeAt Go.RowKit Go.Joins
theorem visited_from {w w2 w' : World} {S S' : Nat → Prop} {c j : Nat} {cs : Array Value} {T : TypeId} {t' : Tr} {v : Value} {e : Ending} (h : Visited w2 S' c j (cs.setIfInBounds j v) T t' e w') (hW : Within w w2 (fun k => S k ∨ k = c)) (hS : ∀ k, S' k → w.heap.size ≤ k ∨ S k) : Visited w S c j cs T t' e w' := by
  obtain ⟨he, y', b', h1, h2, h3⟩ := h
  refine ⟨he, y', b', ?_, hW.trans h2 (fun k hk hl => ?_), h3.mono (fun k hk hl => ?_)⟩
  · rw [h1]
    congr 2
    apply Array.ext_getElem?
    intro m
    by_cases em : m = j
    · subst em; simp
    · rw [Array.getElem?_setIfInBounds_ne (by omega), Array.getElem?_setIfInBounds_ne (by omega), Array.getElem?_setIfInBounds_ne (by omega)]
  · rcases hk with hk | hk
    · rcases hS k hk with h | h
      · omega
      · exact .inl h
    · exact .inr hk
  · rcases hk with hk | hk
    · have := hW.size
      exact .inl (by omega)
    · rcases hS k hk.1 with h | h
      · exact .inl h
      · by_cases hl : k < w.heap.size
        · exact .inr ⟨h, hl⟩
        · exact .inl (by omega)
theorem object_row {w : World} {S : Nat → Prop} {t : Tr} {b : Nat} (h : Ast w S t 131 b) : ∃ CO p n, w.heap[b]? = some (.cells CO 136) ∧ CO[2]? = some (.slice p 0 n) := by
  cases h with
  | object b g cur p0 p1 p2 n0 n1 n2 cap tc a hS hg hcap hr ss d12 dd di hb a1 a2 => exact ⟨_, p0, n0, hb, rfl⟩
theorem dp_over {t : Tr} (h : dpAt t = false) : dp t = over dp t := by rw [dp_eq, h]; rfl
theorem dp32 (t : Tr) : dp (.mk 32 ByteArray.empty 0 false [t]) = .mk 32 ByteArray.empty 0 false [dp t] := by
  rw [dp_eq]
  simp [dpAt, Tr.k, Tr.tx, Tr.op, Tr.fl, Tr.subs]
set_option maxRecDepth 100000 in
theorem drop_step {cb : Nat} {t : Tr} (hbd : Bnd 6 t) (K : Kids (fun s => VisitOk 63 36 40 cb s (dp s)) (fun s => FldOk 120 36 40 cb s (dp s)) t) : VisitOk 63 36 40 cb t (dp t) := by
  intro w S y b c j cs T hp hn hcc ha hSc hc hj
  have base : ∀ (w : World) (S : Nat → Prop) (t : Tr) (y : TypeId) (b : Nat) (cs : Array Value), Bnd 6 t → Kids (fun s => VisitOk 63 36 40 cb s (dp s)) (fun s => FldOk 120 36 40 cb s (dp s)) t → PassAt 40 cb w → ¬ S cb → Ast w S t y b → ¬ S c → w.heap[c]? = some (.cells cs T) → cs[j]? = some (.iface y (.pointer (some ⟨b, 0, none⟩))) →
      Calls Tryf.prog 65 #[.pointer (some ⟨cb, 0, none⟩), .iface 36 (.pointer (some ⟨cb, 0, none⟩)), .pointer (some ⟨c, j, none⟩), .nilIface] w fun e w' => Visited w S c j cs T (over dp t) e w' := fun w S t y b cs hbd K hp hn ha hSc hc hj =>
    visit_by (dropP cb) (dropM cb) _ hp hn ha hSc hc hj (fun w1 hp1 ha1 => node_base (dropP cb) (dropM cb) dp dp32 hp1 (fun h => hn h.1) ha1 hbd K.ih K.ih2 K.fld K.n32 K.n32' (fun _ _ _ => rfl)
      (fun hk => by
        cases ha1 with
        | parens b p0 p1 p2 n0 n1 n2 hS s1 hb a1 => exact base_parens (dropP cb) _ hS s1 a1 (K.ih (by simp [Tr.k]) _ (by simp [Tr.subs]) (K.n32 (by simp [Tr.k]) _ (by simp [Tr.subs]))) hb hp1 (fun h => hn h.1)
        | _ => simp [Tr.k] at hk)
      (fun hk => by
        cases ha1 with
        | index b p0 p1 p2 p3 n0 n1 n2 n3 hS s1 s2 d12 hb a1 a2 => exact base_index (dropP cb) _ hS s1 a1 (K.ih (by simp [Tr.k]) _ (by simp [Tr.subs]) (K.n32 (by simp [Tr.k]) _ (by simp [Tr.subs]))) s2 a2 (K.ih (by simp [Tr.k]) _ (by simp [Tr.subs]) (K.n32 (by simp [Tr.k]) _ (by simp [Tr.subs]))) d12 hb hp1 (fun h => hn h.1)
        | dot b i tx p0 p1 p2 p3 n0 n1 n2 n3 hS hi hbi s1 hb hid a1 => exact base_dot (dropP cb) _ i tx hS hi hbi s1 hid a1 (K.ih (by simp [Tr.k]) _ (by simp [Tr.subs]) (K.n32 (by simp [Tr.k]) _ (by simp [Tr.subs]))) hb hp1 (fun h => hn h.1)
        | _ => simp [Tr.k] at hk))
  cases hd : dpAt t with
  | false =>
    rw [dp_over hd]
    have B := base w S t y b cs hbd K hp hn ha hSc hc hj
    have q := cell_of hc hj
    by_cases hy : y = 72
    · subst hy
      cases ha with
      | binary b op p0 p1 p2 n0 n1 n2 hS s1 s2 d12 hb a1 a2 =>
        rename_i S1 S2 t1 t2 y1 y2 b1 b2
        refine (drop_binary q (cell_of (j := 0) hb rfl) (cell_of (j := 1) hb rfl) (cell_of (j := 12) hb rfl) ?_ hp (Q := fun e w' => Visited w S c j cs T _ e w') (B.mono fun e w' h => ⟨h.1, h⟩)).mono fun e w' h => h.2
        rw [a1.is_var, a1.is_index, a2.is_object]
        have hd' : (((9 : Int) == 9 && op == 3) && ((t1.k == 7 || t1.k == 15 || t1.k == 16) && t2.k == 20)) = false := hd
        clear hd
        by_cases k1 : t1.k = 7 ∨ t1.k = 15 ∨ t1.k = 16
        · right
          refine ⟨k1, ?_⟩
          by_cases k2 : t2.k = 20
          · right
            refine ⟨k2, fun e => ?_⟩
            subst e
            rcases k1 with k1 | k1 | k1 <;> simp [k1, k2] at hd'
          · exact .inl k2
        · left
          exact ⟨fun e => k1 (.inl e), fun e => k1 (.inr e)⟩
    · exact (drop_other q hy hp (Q := fun e w' => Visited w S c j cs T _ e w') (B.mono fun e w' h => ⟨h.1, h⟩)).mono fun e w' h => h.2
  | true =>
    have h9 : t.k = 9 ∧ t.op = 3 := by
      unfold dpAt at hd
      simp only [Bool.and_eq_true, beq_iff_eq] at hd
      exact hd.1
    have hy := ha.is_binary.2 h9.1
    subst hy
    cases ha with
    | binary b op p0 p1 p2 n0 n1 n2 hS s1 s2 d12 hb a1 a2 =>
      rename_i S1 S2 t1 t2 y1 y2 b1 b2
      have e3 : op = 3 := h9.2
      subst e3
      have hk : (t1.k = 7 ∨ t1.k = 15 ∨ t1.k = 16) ∧ t2.k = 20 := by
        have hd' : (((9 : Int) == 9 && (3 : Int) == 3) && ((t1.k == 7 || t1.k == 15 || t1.k == 16) && t2.k == 20)) = true := hd
        simp only [Bool.and_eq_true, Bool.or_eq_true, beq_iff_eq] at hd'
        exact ⟨by rcases hd'.2.1 with (h | h) | h <;> simp [h], hd'.2.2⟩
      have hy1 : y1 = 174 ∨ y1 = 91 := by rw [a1.is_var, a1.is_index]; exact hk.1
      have hy2 := a2.is_object.2 hk.2
      subst hy2
      obtain ⟨CO, po, no, ho, ho2⟩ := object_row a2
      have hob : ¬ b2 = b := fun e => (s2 b2 a2.root).2 e
      have zb := heap_lt hb
      have e : dp (.mk 9 ByteArray.empty 3 false [t1, t2]) = over dp (.mk 14 ByteArray.empty 0 false [t1, t2]) := by rw [dp_eq, hd]; rfl
      rw [e]
      refine (drop_plus hy1 hp (fun e => hn (e ▸ hS)) (fun e => hcc e.symm) (fun e => hSc (e ▸ hS)) hob hc hj hb ho ho2 (Q := fun e w' => Visited w S c j cs T _ e w') (fun w2 nb hnb hrb hrc hW => ?_)).mono fun e w' h => h.2
      have hcl := heap_lt hc
      have hjl := (Array.getElem?_eq_some_iff.1 hj).1
      have out : ∀ k, (S1 k ∨ S2 k) → ¬ (k = b ∨ k = c) := fun k hk hx => by
        rcases hk with hk | hk
        · rcases hx with hx | hx
          · exact (s1 k hk).2 hx
          · exact hSc (hx ▸ (s1 k hk).1)
        · rcases hx with hx | hx
          · exact (s2 k hk).2 hx
          · exact hSc (hx ▸ (s2 k hk).1)
      have hA : Ast w2 (fun k => k = nb ∨ ((S1 k ∨ S2 k) ∧ k < w.heap.size)) (.mk 14 ByteArray.empty 0 false [t1, t2]) 88 nb :=
        .brace nb p0 p1 n0 n1 (.inl rfl) (fun k hk => ⟨.inr ⟨.inl hk.1, hk.2⟩, fun e => by omega⟩) (fun k hk => ⟨.inr ⟨.inr hk.1, hk.2⟩, fun e => by omega⟩) (fun k hk hk' => d12 k hk.1 hk'.1) hrb (a1.within hW (fun k hk => out k (.inl hk))) (a2.within hW (fun k hk => out k (.inr hk)))
      have hpn : PassAt 40 cb w2 := (hW.block cb (heap_lt hp) (fun hx => hx.elim (fun e => hn (e ▸ hS)) (fun e => hcc e.symm))).trans hp
      refine (base w2 (fun k => k = nb ∨ ((S1 k ∨ S2 k) ∧ k < w.heap.size)) (.mk 14 ByteArray.empty 0 false [t1, t2]) 88 nb _ (.mk _ (by simp [Tr.subs]) (fun s hs => hbd.sub s hs)) (K.brace h9.1) hpn (fun h => ?_) hA (fun h => ?_) hrc (by simp [hjl])).mono fun e w' h => ⟨h.1, visited_from h (hW.mono (fun k hk _ => hk.elim (fun e => .inl (e ▸ hS)) .inr)) (fun k hk => ?_)⟩
      · rcases h with h | h
        · have := heap_lt hp; omega
        · exact hn (h.1.elim (fun h => (s1 _ h).1) (fun h => (s2 _ h).1))
      · rcases h with h | h
        · omega
        · exact hSc (h.1.elim (fun h => (s1 _ h).1) (fun h => (s2 _ h).1))
      · rcases hk with hk | hk
        · exact .inl (by omega)
        · exact .inr (hk.1.elim (fun h => (s1 _ h).1) (fun h => (s2 _ h).1))
theorem drop_any (cb : Nat) {t : Tr} (ok : Ok t) : VisitOk 63 36 40 cb t (dp t) :=
  ok_kids (fun {t} hbd K => drop_step hbd K) (fun {s} h => by
    have e : dpAt s = false := by
      rcases h.1 with h | h <;> · unfold dpAt; rw [h]; rfl
    rw [dp_over e]
    exact fld_base (dropP cb) (dropM cb).mFieldParams dp h.2) ok
end Go.Proofs.YthhcfkkmbjaeeaaFmt
