/-
  What a pass's method makes of a node. Conditions: what Visit does at the nodes below; what the pass does at brackets, indexes and fields.
-/
import Derived.Test.YtlgajopaokjjaaaGreatFmtPassVis
import Derived.Test.YtlgajopaokjjaaaGreatFmtPass1
import Derived.Test.YtlgajopaokjjaaaGreatFmtPass2
import Derived.Test.YtlgajopaokjjaaaGreatFmtPass3
import Derived.Test.YtlgajopaokjjaaaGreatFmtPass4
import Derived.Test.YtlgajopaokjjaaaGreatFmtPassArr
import Derived.Test.YtlgajopaokjjaaaGreatFmtPassApp
import Derived.Test.YtlgajopaokjjaaaGreatFmtPassObj
namespace Go.Proofs.YtlgajopaokjjaaaGreatFmt
open Go.ChangeShapes Go.WideShapes Go.ChangeAt Go.RowKit Go.Joins
/-- A root with other nodes below it. -/
def over (F : Tr → Tr) (t : Tr) : Tr := .mk t.k t.tx t.op t.fl (t.subs.map F)
theorem fld_base {fV : FuncId} {yp TP : TypeId} {cb : Nat} (P : PassVisits fV yp TP cb) (hFP : ∀ w, PassAt TP cb w → (method 388 yp (.pointer (some ⟨cb, 0, none⟩)) "FieldParams").run Tryz.prog w = .ok (101, .pointer (some ⟨cb, 0, none⟩)) w) (F : Tr → Tr) {s : Tr} (ih : ∀ u ∈ s.subs, VisitOk fV yp TP cb u (F u)) : FldOk 109 yp TP cb s (over F s) := by
  intro w S1 S2 g o cur Fd hp nc1 nc2 hgc hrow hid hg n1 n2 d a1 a2
  rcases hrow with ⟨c, t, hs, hc, hr⟩ | ⟨t1, t2, hs, hc, hr⟩
  · have e : s.subs = [t] := by rw [hs]; rfl
    have e2 : over F s = .mk 37 s.tx s.op s.fl [F t] := by
      unfold over
      rw [e, hs]
      rfl
    rw [e2]
    exact base_fieldId P hFP _ (ih t (by rw [e]; simp)) w S1 S2 g o cur Fd hc hr (hid c hc).1 hg n2 (a2 t (by rw [e]; rfl)) hp nc2 hgc
  · have e : s.subs = [t1, t2] := by rw [hs]; rfl
    have e2 : over F s = .mk 39 ByteArray.empty s.op s.fl [F t1, F t2] := by
      unfold over
      rw [e, hs]
      rfl
    rw [e2]
    exact base_fieldStr P hFP _ (ih t1 (by rw [e]; simp)) (ih t2 (by rw [e]; simp)) w S1 S2 g o cur Fd hc hr hg n1 n2 d (a1 _ _ _ _ _ hs) (a2 t2 (by rw [e]; rfl)) hp nc1 nc2 hgc
theorem leaf_noded {w w' : World} {S : Nat → Prop} {t : Tr} {y : TypeId} {b : Nat} {e : Ending} (ha : Ast w S t y b) (h : e = .returned (.tuple #[]) ∧ w = w') : Noded w S t y b e w' := by
  obtain ⟨rfl, rfl⟩ := h
  exact ⟨rfl, Within.refl _ _, ha.mono fun k hk hl => .inr ⟨hk, hl⟩⟩
set_option maxRecDepth 100000 in
theorem node_base {fV : FuncId} {yp TP : TypeId} {cb : Nat} {fP fI fF : FuncId} (P : PassVisits fV yp TP cb) (M : PassMeths yp TP cb fP fI fF) (F : Tr → Tr) (h32 : ∀ t, F (.mk 32 ByteArray.empty 0 false [t]) = .mk 32 ByteArray.empty 0 false [F t]) {w : World} {S : Nat → Prop} {t t' : Tr} {y : TypeId} {b : Nat} (hp : PassAt TP cb w) (hn : ¬ S cb) (ha : Ast w S t y b) (hbd : Bnd 6 t)
    (ih : t.k ≠ 20 → ∀ s ∈ t.subs, s.k ≠ 32 → VisitOk fV yp TP cb s (F s)) (ih2 : ∀ s, Tr.mk 32 ByteArray.empty 0 false [s] ∈ t.subs → VisitOk fV yp TP cb s (F s)) (hfld : t.k = 20 → ∀ s ∈ t.subs, FldOk fF yp TP cb s (F s)) (n32 : t.k ≠ 13 → ∀ s ∈ t.subs, s.k ≠ 32) (n32' : ∀ s r, t.subs = s :: r → s.k ≠ 32)
    (hT : t.k ≠ 28 → t.k ≠ 15 → t.k ≠ 16 → t' = over F t)
    (par : t.k = 28 → Calls Tryz.prog fP #[.pointer (some ⟨cb, 0, none⟩), .iface yp (.pointer (some ⟨cb, 0, none⟩)), .pointer (some ⟨b, 0, none⟩), .nilIface] w fun e w' => Noded w S t' y b e w') (idx : t.k = 15 ∨ t.k = 16 → Calls Tryz.prog fI #[.pointer (some ⟨cb, 0, none⟩), .iface yp (.pointer (some ⟨cb, 0, none⟩)), .pointer (some ⟨b, 0, none⟩), .nilIface] w fun e w' => Noded w S t' y b e w') :
    Calls Tryz.prog (methOf fP fI y) #[.pointer (some ⟨cb, 0, none⟩), .iface yp (.pointer (some ⟨cb, 0, none⟩)), .pointer (some ⟨b, 0, none⟩), .nilIface] w fun e w' => Noded w S t' y b e w' := by
  have hlen := hbd.len
  have hA := ha
  cases ha with
  | null b p0 p1 n0 n1 hS hb => rw [hT (by simp [Tr.k]) (by simp [Tr.k]) (by simp [Tr.k])]; exact (leaf_LiteralNull _ _ _ _ w).mono fun e w' h => leaf_noded hA h
  | boolean b fl p0 p1 n0 n1 hS hb => rw [hT (by simp [Tr.k]) (by simp [Tr.k]) (by simp [Tr.k])]; exact (leaf_LiteralBoolean _ _ _ _ w).mono fun e w' h => leaf_noded hA h
  | number b tx p0 p1 n0 n1 hS hb => rw [hT (by simp [Tr.k]) (by simp [Tr.k]) (by simp [Tr.k])]; exact (leaf_LiteralNumber _ _ _ _ w).mono fun e w' h => leaf_noded hA h
  | str b tx op p0 p1 n0 n1 hS hb => rw [hT (by simp [Tr.k]) (by simp [Tr.k]) (by simp [Tr.k])]; exact (leaf_LiteralString _ _ _ _ w).mono fun e w' h => leaf_noded hA h
  | self b p0 p1 n0 n1 hS hb => rw [hT (by simp [Tr.k]) (by simp [Tr.k]) (by simp [Tr.k])]; exact (leaf_Self _ _ _ _ w).mono fun e w' h => leaf_noded hA h
  | dollar b p0 p1 n0 n1 hS hb => rw [hT (by simp [Tr.k]) (by simp [Tr.k]) (by simp [Tr.k])]; exact (leaf_Dollar _ _ _ _ w).mono fun e w' h => leaf_noded hA h
  | var b tx p0 p1 n0 n1 hS hb => rw [hT (by simp [Tr.k]) (by simp [Tr.k]) (by simp [Tr.k])]; exact (leaf_Var _ _ _ _ w).mono fun e w' h => leaf_noded hA h
  | unary b op p0 p1 n0 n1 hS s1 hb a1 =>
    rw [hT (by simp [Tr.k]) (by simp [Tr.k]) (by simp [Tr.k])]
    exact base_unary P _ op hS s1 a1 (ih (by simp [Tr.k]) _ (by simp [Tr.subs]) (n32 (by simp [Tr.k]) _ (by simp [Tr.subs]))) hb hp hn
  | error b p0 p1 n0 n1 hS s1 hb a1 =>
    rw [hT (by simp [Tr.k]) (by simp [Tr.k]) (by simp [Tr.k])]
    exact base_error P _ hS s1 a1 (ih (by simp [Tr.k]) _ (by simp [Tr.subs]) (n32 (by simp [Tr.k]) _ (by simp [Tr.subs]))) hb hp hn
  | parens b p0 p1 p2 n0 n1 n2 hS s1 hb a1 => exact par rfl
  | binary b op p0 p1 p2 n0 n1 n2 hS s1 s2 d12 hb a1 a2 =>
    rw [hT (by simp [Tr.k]) (by simp [Tr.k]) (by simp [Tr.k])]
    exact base_binary P _ op hS s1 a1 (ih (by simp [Tr.k]) _ (by simp [Tr.subs]) (n32 (by simp [Tr.k]) _ (by simp [Tr.subs]))) s2 a2 (ih (by simp [Tr.k]) _ (by simp [Tr.subs]) (n32 (by simp [Tr.k]) _ (by simp [Tr.subs]))) d12 hb hp hn
  | if2 b p0 p1 p2 p3 n0 n1 n2 n3 hS s1 s2 d12 hb a1 a2 =>
    rw [hT (by simp [Tr.k]) (by simp [Tr.k]) (by simp [Tr.k])]
    exact base_if2 P _ hS s1 a1 (ih (by simp [Tr.k]) _ (by simp [Tr.subs]) (n32 (by simp [Tr.k]) _ (by simp [Tr.subs]))) s2 a2 (ih (by simp [Tr.k]) _ (by simp [Tr.subs]) (n32 (by simp [Tr.k]) _ (by simp [Tr.subs]))) d12 hb hp hn
  | if3 b p0 p1 p2 p3 n0 n1 n2 n3 hS s1 s2 s3 d12 d13 d23 hb a1 a2 a3 =>
    rw [hT (by simp [Tr.k]) (by simp [Tr.k]) (by simp [Tr.k])]
    exact base_if3 P _ hS s1 a1 (ih (by simp [Tr.k]) _ (by simp [Tr.subs]) (n32 (by simp [Tr.k]) _ (by simp [Tr.subs]))) s2 a2 (ih (by simp [Tr.k]) _ (by simp [Tr.subs]) (n32 (by simp [Tr.k]) _ (by simp [Tr.subs]))) s3 a3 (ih (by simp [Tr.k]) _ (by simp [Tr.subs]) (n32 (by simp [Tr.k]) _ (by simp [Tr.subs]))) d12 d13 d23 hb hp hn
  | brace b p0 p1 n0 n1 hS s1 s2 d12 hb a1 a2 =>
    rw [hT (by simp [Tr.k]) (by simp [Tr.k]) (by simp [Tr.k])]
    exact base_brace P _ hS s1 a1 (ih (by simp [Tr.k]) _ (by simp [Tr.subs]) (n32 (by simp [Tr.k]) _ (by simp [Tr.subs]))) s2 a2 (ih (by simp [Tr.k]) _ (by simp [Tr.subs]) (n32 (by simp [Tr.k]) _ (by simp [Tr.subs]))) d12 hb hp hn
  | index b p0 p1 p2 p3 n0 n1 n2 n3 hS s1 s2 d12 hb a1 a2 => exact idx (.inl rfl)
  | dot b i tx p0 p1 p2 p3 n0 n1 n2 n3 hS hi hbi s1 hb hid a1 => exact idx (.inr rfl)
  | apply b g cur p0 p1 p2 p3 p4 p5 n0 n1 n2 n3 n4 n5 cap tc a hS s1 hg hcap hr ss dd hb a1 aa =>
    rename_i SS t1 y1 b1 l ys bs ps ns
    rw [hT (by simp [Tr.k]) (by simp [Tr.k]) (by simp [Tr.k])]
    have e : over F (.mk 13 ByteArray.empty 0 false (t1 :: l.map fun t => .mk 32 ByteArray.empty 0 false [t])) = .mk 13 ByteArray.empty 0 false (F t1 :: (l.map F).map fun t => .mk 32 ByteArray.empty 0 false [t]) := by
      unfold over
      simp only [Tr.k, Tr.tx, Tr.op, Tr.fl, Tr.subs, List.map_cons, List.map_map]
      congr 2
      exact List.map_congr_left fun x _ => h32 x
    rw [e]
    exact base_apply P M.mArguments M.nArguments F _ (by simp [Tr.subs] at hlen; omega) hS s1 hg hcap hr ss dd hb a1 (ih (by simp [Tr.k]) _ (by simp [Tr.subs]) (n32' t1 _ rfl)) aa (fun t ht => ih2 t (List.mem_cons_of_mem _ (List.mem_map.2 ⟨t, ht, rfl⟩))) hp hn
  | array b g cur p0 p1 p2 n0 n1 n2 cap tc a hS hg hcap hr ss dd hb aa =>
    rw [hT (by simp [Tr.k]) (by simp [Tr.k]) (by simp [Tr.k])]
    exact base_array P F _ hlen hS hg hcap hr ss dd hb aa (fun t ht => ih (by simp [Tr.k]) t ht (n32 (by simp [Tr.k]) t ht)) hp hn
  | object b g cur p0 p1 p2 n0 n1 n2 cap tc a hS hg hcap hr ss d12 dd di hb a1 a2 =>
    rw [hT (by simp [Tr.k]) (by simp [Tr.k]) (by simp [Tr.k])]
    exact base_object P M.mObjectField M.eObjectField M.nObjectField M.nObjectFields M.mObjectFields F _ hlen hS hg hcap hr ss d12 dd di hb a1 a2 (hfld rfl) hp hn
end Go.Proofs.YtlgajopaokjjaaaGreatFmt
