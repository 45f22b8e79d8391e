/-
  FixParens at any tree. Conditions: spec.Tree's.
-/
import Derived.Test.YthhcfkkmbjaeeaaFmtDrop0
import Derived.Test.YthhcfkkmbjaeeaaFmtFixWalk
import Derived.Test.YthhcfkkmbjaeeaaFmtPassOk
namespace Go.Proofs.YthhcfkkmbjaeeaaFmt
open Go.ChangeShapes Go.WideShapes Go.ChangeAt Go.RowKit Go.Joins
theorem Kids.map {V V' W : Tr → Prop} {t : Tr} (h : Kids V W t) (hv : ∀ s, V s → V' s) : Kids V' W t := ⟨fun h1 s hs h2 => hv s (h.ih h1 s hs h2), fun s hs => hv s (h.ih2 s hs), h.fld, h.n32, h.n32'⟩
theorem chg1_over {t : Tr} (h : t.k ≠ 28) : chg 1 t = over (chg 1) t := by
  rw [chg_eq]
  have e : top 1 t = t := by simp [top, h]
  rw [e]; rfl
theorem chg1_parens {t1 : Tr} (h : t1.k ≠ 28) : chg 1 (.mk 28 ByteArray.empty 0 false [t1]) = .mk 28 ByteArray.empty 0 false [chg 1 t1] := by
  rw [chg_eq]
  have e : top 1 (.mk 28 ByteArray.empty 0 false [t1]) = .mk 28 ByteArray.empty 0 false [t1] := by
    unfold top
    rw [if_neg (fun h => absurd h.1 (by decide)), if_pos ⟨rfl, rfl⟩]
    show (if t1.k = 28 then t1 else _) = _
    rw [if_neg h]
  rw [e]; rfl
theorem chg1_double (t2 : Tr) : chg 1 (.mk 28 ByteArray.empty 0 false [.mk 28 ByteArray.empty 0 false [t2]]) = .mk 28 ByteArray.empty 0 false [chg 1 t2] := by
  rw [chg_eq]
  have e : top 1 (.mk 28 ByteArray.empty 0 false [.mk 28 ByteArray.empty 0 false [t2]]) = .mk 28 ByteArray.empty 0 false [t2] := by
    unfold top
    rw [if_neg (fun h => absurd h.1 (by decide)), if_pos ⟨rfl, rfl⟩]
    rfl
  rw [e]; rfl
theorem noded_from {w w2 w' : World} {S T : Nat → Prop} {t : Tr} {y : TypeId} {b : Nat} {e : Ending} (h : Noded w2 S t y b e w') (hW : Within w w2 T) (hT : ∀ k, T k → S k) : Noded w S t y b e w' :=
  ⟨h.1, (hW.mono (fun k hk _ => hT k hk)).trans h.2.1 (fun k hk _ => hk), h.2.2.mono (fun k hk _ => by
    rcases hk with hk | hk
    · have := hW.size
      exact .inl (by omega)
    · by_cases hl : k < w.heap.size
      · exact .inr ⟨hk.1, hl⟩
      · exact .inl (by omega))⟩
set_option maxRecDepth 100000 in
theorem fix_parens {cb : Nat} {w : World} {S : Nat → Prop} {t : Tr} {b : Nat} (hp : PassAt 51 cb w) (hn : ¬ S cb) (ha : Ast w S t 102 b) (V : ∀ s ∈ t.subs, VisitOk 65 50 51 cb s (chg 1 s) ∧ (s.k = 28 → ∀ u ∈ s.subs, VisitOk 65 50 51 cb u (chg 1 u))) :
    Calls Tryf.prog 93 #[.pointer (some ⟨cb, 0, none⟩), .iface 50 (.pointer (some ⟨cb, 0, none⟩)), .pointer (some ⟨b, 0, none⟩), .nilIface] w fun e w' => Noded w S (chg 1 t) 102 b e w' := by
  cases ha with
  | parens b p0 p1 p2 n0 n1 n2 hS s1 hb a1 =>
    rename_i S1 t1 y1 b1
    obtain ⟨v1, v2⟩ := V t1 (by simp [Tr.subs])
    by_cases h28 : t1.k = 28
    · have hy := a1.is_parens.2 h28
      subst hy
      cases a1 with
      | parens b1 q0 q1 q2 m0 m1 m2 hS1 s2 hb1 a2 =>
        rename_i S2 t2 y2 b2
        have hbb : ¬ b = b1 := fun e => (s1 b1 hS1).2 e.symm
        rw [chg1_double]
        refine (fix_double hp (fun e => hn (e ▸ hS)) (fun e => hn (e ▸ (s1 b1 hS1).1)) hbb hb hb1 (Q := fun e w' => Noded w S (.mk 28 ByteArray.empty 0 false [chg 1 t2]) 102 b e w') (fun w2 hrb hW => ?_)).mono fun e w' h => h.2
        have hp2 : PassAt 51 cb w2 := (hW.block cb (heap_lt hp) (fun hx => hx.elim (fun e => hn (e ▸ hS)) (fun e => hn (e ▸ (s1 b1 hS1).1)))).trans hp
        have a2' := a2.within hW (fun k hk hx => hx.elim (fun e => (s1 k (s2 k hk).1).2 e) (fun e => (s2 k hk).2 e))
        refine (base_parens (fixP cb) _ (S := S) hS (fun k hk => ⟨(s1 k (s2 k hk.1).1).1, (s1 k (s2 k hk.1).1).2⟩) a2' (v2 rfl t2 (by simp [Tr.subs])) hrb hp2 hn).mono fun e w' h => ⟨h.1, noded_from h hW (fun k hk => hk.elim (fun e => e ▸ hS) (fun e => e ▸ (s1 b1 hS1).1))⟩
    · rw [chg1_parens h28]
      have hy : ¬ y1 = 102 := fun e => h28 (a1.is_parens.1 e)
      exact (fix_plain (cell_of (j := 0) hb rfl) hy hp (Q := fun e w' => Noded w S (.mk 28 ByteArray.empty 0 false [chg 1 t1]) 102 b e w') ((base_parens (fixP cb) _ hS s1 a1 v1 hb hp hn).mono fun e w' h => ⟨h.1, h⟩)).mono fun e w' h => h.2
set_option maxRecDepth 100000 in
theorem fix_step {cb : Nat} {t : Tr} (hbd : Bnd 6 t) (K : Kids (fun s => VisitOk 65 50 51 cb s (chg 1 s) ∧ (s.k = 28 → ∀ u ∈ s.subs, VisitOk 65 50 51 cb u (chg 1 u))) (fun s => FldOk 120 50 51 cb s (chg 1 s)) t) : VisitOk 65 50 51 cb t (chg 1 t) := by
  intro w S y b c j cs T hp hn hcc ha hSc hc hj
  have K1 : Kids (fun s => VisitOk 65 50 51 cb s (chg 1 s)) (fun s => FldOk 120 50 51 cb s (chg 1 s)) t := K.map fun s h => h.1
  exact visit_by (fixP cb) (fixM cb) _ hp hn ha hSc hc hj (fun w1 hp1 ha1 => node_base (fixP cb) (fixM cb) (chg 1) (fun t => by rw [chg1_over (by simp [Tr.k])]; rfl) hp1 (fun h => hn h.1) ha1 hbd K1.ih K1.ih2 K1.fld K1.n32 K1.n32' (fun h _ _ => chg1_over h)
    (fun hk => by
      have hy := ha1.is_parens.2 hk
      subst hy
      exact fix_parens hp1 (fun h => hn h.1) ha1 (fun s hs => K.ih (by omega) s hs (K.n32 (by omega) s hs)))
    (fun hk => by
      cases ha1 with
      | index b p0 p1 p2 p3 n0 n1 n2 n3 hS s1 s2 d12 hb a1 a2 =>
        rw [chg1_over (by simp [Tr.k])]
        exact base_index (fixP cb) _ hS s1 a1 (K1.ih (by simp [Tr.k]) _ (by simp [Tr.subs]) (K1.n32 (by simp [Tr.k]) _ (by simp [Tr.subs]))) s2 a2 (K1.ih (by simp [Tr.k]) _ (by simp [Tr.subs]) (K1.n32 (by simp [Tr.k]) _ (by simp [Tr.subs]))) d12 hb hp1 (fun h => hn h.1)
      | dot b i tx p0 p1 p2 p3 n0 n1 n2 n3 hS hi hbi s1 hb hid a1 =>
        rw [chg1_over (by simp [Tr.k])]
        exact base_dot (fixP cb) _ i tx hS hi hbi s1 hid a1 (K1.ih (by simp [Tr.k]) _ (by simp [Tr.subs]) (K1.n32 (by simp [Tr.k]) _ (by simp [Tr.subs]))) hb hp1 (fun h => hn h.1)
      | _ => simp [Tr.k] at hk))
theorem fix_any (cb : Nat) {t : Tr} (ok : Ok t) : VisitOk 65 50 51 cb t (chg 1 t) :=
  (ok_kids (V := fun s => VisitOk 65 50 51 cb s (chg 1 s) ∧ (s.k = 28 → ∀ u ∈ s.subs, VisitOk 65 50 51 cb u (chg 1 u))) (W := (fun s => FldOk 120 50 51 cb s (chg 1 s)))
    (fun {t} hbd K => ⟨fix_step hbd K, fun hk s hs => (K.ih (by omega) s hs (K.n32 (by omega) s hs)).1⟩) (fun {s} h => by
      show FldOk _ _ _ _ s (chg 1 s)
      rw [chg1_over (by rcases h.1 with h | h <;> omega)]
      exact fld_base (fixP cb) (fixM cb).mFieldParams (chg 1) (fun u hu => (h.2 u hu).1)) ok).1
end Go.Proofs.YthhcfkkmbjaeeaaFmt
