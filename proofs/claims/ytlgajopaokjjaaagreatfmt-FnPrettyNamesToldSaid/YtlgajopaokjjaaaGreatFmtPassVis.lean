/-
  (*pass.Base).Visit at any node. Conditions: what the pass's method of the node's type does.
-/
import Derived.Test.YtlgajopaokjjaaaGreatFmtPassVis1
import Derived.Test.YtlgajopaokjjaaaGreatFmtPassVis2
import Derived.Test.YtlgajopaokjjaaaGreatFmtPassVis3
import Derived.Test.YtlgajopaokjjaaaGreatFmtPassVis4
import Derived.Test.YtlgajopaokjjaaaGreatFmtBase
namespace Go.Proofs.YtlgajopaokjjaaaGreatFmt
open Go.ChangeShapes Go.WideShapes Go.ChangeAt Go.RowKit Go.Joins
/-- The methods of a pass: fP at brackets, fI at indexes, fF at fields; the others are the base's. -/
structure PassMeths (yp TP : TypeId) (cb : Nat) (fP fI fF : FuncId) : Prop where
  eLiteralNull : ∀ args w, (callFunc (84) args).run Tryz.prog w = .ok (.enter (84) args) w
  eLiteralBoolean : ∀ args w, (callFunc (83) args).run Tryz.prog w = .ok (.enter (83) args) w
  eLiteralNumber : ∀ args w, (callFunc (85) args).run Tryz.prog w = .ok (.enter (85) args) w
  eLiteralString : ∀ args w, (callFunc (86) args).run Tryz.prog w = .ok (.enter (86) args) w
  eSelf : ∀ args w, (callFunc (91) args).run Tryz.prog w = .ok (.enter (91) args) w
  eDollar : ∀ args w, (callFunc (75) args).run Tryz.prog w = .ok (.enter (75) args) w
  eVar : ∀ args w, (callFunc (95) args).run Tryz.prog w = .ok (.enter (95) args) w
  eUnary : ∀ args w, (callFunc (94) args).run Tryz.prog w = .ok (.enter (94) args) w
  eBinary : ∀ args w, (callFunc (73) args).run Tryz.prog w = .ok (.enter (73) args) w
  eConditional : ∀ args w, (callFunc (74) args).run Tryz.prog w = .ok (.enter (74) args) w
  eApplyBrace : ∀ args w, (callFunc (69) args).run Tryz.prog w = .ok (.enter (69) args) w
  eIndex : ∀ args w, (callFunc (fI) args).run Tryz.prog w = .ok (.enter (fI) args) w
  eError : ∀ args w, (callFunc (57) args).run Tryz.prog w = .ok (.enter (57) args) w
  eParens : ∀ args w, (callFunc (fP) args).run Tryz.prog w = .ok (.enter (fP) args) w
  eApply : ∀ args w, (callFunc (68) args).run Tryz.prog w = .ok (.enter (68) args) w
  eArray : ∀ args w, (callFunc (70) args).run Tryz.prog w = .ok (.enter (70) args) w
  eObject : ∀ args w, (callFunc (88) args).run Tryz.prog w = .ok (.enter (88) args) w
  eObjectField : ∀ args w, (callFunc fF args).run Tryz.prog w = .ok (.enter fF args) w
  mLiteralNull : ∀ w, PassAt TP cb w → (method 388 yp (.pointer (some ⟨cb, 0, none⟩)) "LiteralNull").run Tryz.prog w = .ok (84, .pointer (some ⟨cb, 0, none⟩)) w
  mLiteralBoolean : ∀ w, PassAt TP cb w → (method 388 yp (.pointer (some ⟨cb, 0, none⟩)) "LiteralBoolean").run Tryz.prog w = .ok (83, .pointer (some ⟨cb, 0, none⟩)) w
  mLiteralNumber : ∀ w, PassAt TP cb w → (method 388 yp (.pointer (some ⟨cb, 0, none⟩)) "LiteralNumber").run Tryz.prog w = .ok (85, .pointer (some ⟨cb, 0, none⟩)) w
  mLiteralString : ∀ w, PassAt TP cb w → (method 388 yp (.pointer (some ⟨cb, 0, none⟩)) "LiteralString").run Tryz.prog w = .ok (86, .pointer (some ⟨cb, 0, none⟩)) w
  mSelf : ∀ w, PassAt TP cb w → (method 388 yp (.pointer (some ⟨cb, 0, none⟩)) "Self").run Tryz.prog w = .ok (91, .pointer (some ⟨cb, 0, none⟩)) w
  mDollar : ∀ w, PassAt TP cb w → (method 388 yp (.pointer (some ⟨cb, 0, none⟩)) "Dollar").run Tryz.prog w = .ok (75, .pointer (some ⟨cb, 0, none⟩)) w
  mVar : ∀ w, PassAt TP cb w → (method 388 yp (.pointer (some ⟨cb, 0, none⟩)) "Var").run Tryz.prog w = .ok (95, .pointer (some ⟨cb, 0, none⟩)) w
  mUnary : ∀ w, PassAt TP cb w → (method 388 yp (.pointer (some ⟨cb, 0, none⟩)) "Unary").run Tryz.prog w = .ok (94, .pointer (some ⟨cb, 0, none⟩)) w
  mBinary : ∀ w, PassAt TP cb w → (method 388 yp (.pointer (some ⟨cb, 0, none⟩)) "Binary").run Tryz.prog w = .ok (73, .pointer (some ⟨cb, 0, none⟩)) w
  mConditional : ∀ w, PassAt TP cb w → (method 388 yp (.pointer (some ⟨cb, 0, none⟩)) "Conditional").run Tryz.prog w = .ok (74, .pointer (some ⟨cb, 0, none⟩)) w
  mApplyBrace : ∀ w, PassAt TP cb w → (method 388 yp (.pointer (some ⟨cb, 0, none⟩)) "ApplyBrace").run Tryz.prog w = .ok (69, .pointer (some ⟨cb, 0, none⟩)) w
  mIndex : ∀ w, PassAt TP cb w → (method 388 yp (.pointer (some ⟨cb, 0, none⟩)) "Index").run Tryz.prog w = .ok (fI, .pointer (some ⟨cb, 0, none⟩)) w
  mError : ∀ w, PassAt TP cb w → (method 388 yp (.pointer (some ⟨cb, 0, none⟩)) "Error").run Tryz.prog w = .ok (57, .pointer (some ⟨cb, 0, none⟩)) w
  mParens : ∀ w, PassAt TP cb w → (method 388 yp (.pointer (some ⟨cb, 0, none⟩)) "Parens").run Tryz.prog w = .ok (fP, .pointer (some ⟨cb, 0, none⟩)) w
  mApply : ∀ w, PassAt TP cb w → (method 388 yp (.pointer (some ⟨cb, 0, none⟩)) "Apply").run Tryz.prog w = .ok (68, .pointer (some ⟨cb, 0, none⟩)) w
  mArray : ∀ w, PassAt TP cb w → (method 388 yp (.pointer (some ⟨cb, 0, none⟩)) "Array").run Tryz.prog w = .ok (70, .pointer (some ⟨cb, 0, none⟩)) w
  mObject : ∀ w, PassAt TP cb w → (method 388 yp (.pointer (some ⟨cb, 0, none⟩)) "Object").run Tryz.prog w = .ok (88, .pointer (some ⟨cb, 0, none⟩)) w
  nArguments : ∀ w, (nilAhead 388 yp (.pointer (some ⟨cb, 0, none⟩)) "Arguments").run Tryz.prog w = .ok (some false) w
  nObjectFields : ∀ w, (nilAhead 388 yp (.pointer (some ⟨cb, 0, none⟩)) "ObjectFields").run Tryz.prog w = .ok (some false) w
  nObjectField : ∀ w, (nilAhead 388 yp (.pointer (some ⟨cb, 0, none⟩)) "ObjectField").run Tryz.prog w = .ok (some false) w
  mArguments : ∀ w, PassAt TP cb w → (method 388 yp (.pointer (some ⟨cb, 0, none⟩)) "Arguments").run Tryz.prog w = .ok (100, .pointer (some ⟨cb, 0, none⟩)) w
  mFieldParams : ∀ w, PassAt TP cb w → (method 388 yp (.pointer (some ⟨cb, 0, none⟩)) "FieldParams").run Tryz.prog w = .ok (101, .pointer (some ⟨cb, 0, none⟩)) w
  mObjectFields : ∀ w, PassAt TP cb w → (method 388 yp (.pointer (some ⟨cb, 0, none⟩)) "ObjectFields").run Tryz.prog w = .ok (105, .pointer (some ⟨cb, 0, none⟩)) w
  mObjectField : ∀ w, PassAt TP cb w → (method 388 yp (.pointer (some ⟨cb, 0, none⟩)) "ObjectField").run Tryz.prog w = .ok (fF, .pointer (some ⟨cb, 0, none⟩)) w
/-- The method of a type of nodes. -/
def methOf (fP fI : FuncId) (y : TypeId) : FuncId :=
  if y = 149 then 84 else if y = 156 then 83 else if y = 159 then 85 else if y = 162 then 86 else if y = 166 then 91 else if y = 168 then 75 else if y = 170 then 95 else if y = 53 then 94 else if y = 69 then 73 else if y = 73 then 74 else if y = 85 then 69 else if y = 88 then fI else if y = 96 then 57 else if y = 99 then fP else if y = 76 then 68 else if y = 93 then 70 else if y = 128 then 88 else 0
/-- A visit that leaves the node where it is. -/
theorem visited_same {w w1 w' : World} {S : Nat → Prop} {c j : Nat} {cs : Array Value} {T : TypeId} {t' : Tr} {y : TypeId} {b : Nat} (hc : w.heap[c]? = some (.cells cs T)) (hj : cs[j]? = some (.iface y (.pointer (some ⟨b, 0, none⟩)))) (hSc : ¬ S c) (hb1 : Below w.heap.size w w1) (h : Within w1 w' (fun k => S k ∧ k < w.heap.size)) (ha : Ast w' (Wide w1 (fun k => S k ∧ k < w.heap.size)) t' y b) :
    Visited w S c j cs T t' (.returned (.tuple #[])) w' := by
  have z := hb1.size
  have hcl := heap_lt hc
  refine ⟨rfl, y, b, ?_, ?_, ?_⟩
  · have e : cs.setIfInBounds j (.iface y (.pointer (some ⟨b, 0, none⟩))) = cs := by
      obtain ⟨h1, h2⟩ := Array.getElem?_eq_some_iff.1 hj
      apply Array.ext_getElem?
      intro m
      by_cases em : m = j
      · subst em; simp [h1, h2]
      · rw [Array.getElem?_setIfInBounds_ne (by omega)]
    rw [e]
    exact (h.block c (by omega) (fun hx => hSc hx.1)).trans ((hb1.block c hcl).trans hc)
  · exact (Within.of_below hb1 _).trans h (fun k hk _ => .inl hk.1)
  · exact ha.mono (fun k hk _ => by
      rcases hk with hk | hk
      · exact .inl (by omega)
      · exact .inr hk.1)
set_option maxRecDepth 100000 in
theorem visit_by {fV : FuncId} {yp TP : TypeId} {cb : Nat} {fP fI fF : FuncId} (P : PassVisits fV yp TP cb) (M : PassMeths yp TP cb fP fI fF) (r : Value) {w : World} {S : Nat → Prop} {t t' : Tr} {y : TypeId} {b c j : Nat} {cs : Array Value} {T : TypeId} (hp : PassAt TP cb w) (hn : ¬ S cb) (ha : Ast w S t y b) (hSc : ¬ S c) (hc : w.heap[c]? = some (.cells cs T)) (hj : cs[j]? = some (.iface y (.pointer (some ⟨b, 0, none⟩))))
    (call : ∀ w1, PassAt TP cb w1 → Ast w1 (fun k => S k ∧ k < w.heap.size) t y b → Calls Tryz.prog (methOf fP fI y) #[.pointer (some ⟨cb, 0, none⟩), .iface yp (.pointer (some ⟨cb, 0, none⟩)), .pointer (some ⟨b, 0, none⟩), .nilIface] w1 fun e w' => Noded w1 (fun k => S k ∧ k < w.heap.size) t' y b e w') :
    Calls Tryz.prog 59 #[r, .iface yp (.pointer (some ⟨cb, 0, none⟩)), .pointer (some ⟨c, j, none⟩), .nilIface] w fun e w' => Visited w S c j cs T t' e w' := by
  have call' : ∀ w1, Below w.heap.size w w1 → Calls Tryz.prog (methOf fP fI y) #[.pointer (some ⟨cb, 0, none⟩), .iface yp (.pointer (some ⟨cb, 0, none⟩)), .pointer (some ⟨b, 0, none⟩), .nilIface] w1 fun e w' => e = .returned (.tuple #[]) ∧ (Within w1 w' (fun k => S k ∧ k < w.heap.size) ∧ Ast w' (Wide w1 (fun k => S k ∧ k < w.heap.size)) t' y b) := fun w1 h1 =>
    call w1 ((h1.block cb (heap_lt hp)).trans hp) (ha.keep (fun k hk hl => ⟨hk, hl⟩) (fun k _ hl => h1.block k hl))
  have fin : ∀ (e : Ending) (w' : World), (e = .returned (.tuple #[]) ∧ ∃ w1, Below w.heap.size w w1 ∧ (Within w1 w' (fun k => S k ∧ k < w.heap.size) ∧ Ast w' (Wide w1 (fun k => S k ∧ k < w.heap.size)) t' y b)) → Visited w S c j cs T t' e w' := fun e w' ⟨he, w1, h1, h2, h3⟩ => by
    subst he
    exact visited_same hc hj hSc h1 h2 h3
  have hbc : ¬ b = c := fun e => hSc (e ▸ ha.root)
  have hpb : ¬ cb = b := fun e => hn (e ▸ ha.root)
  cases ha with
  | null _ _ _ _ _ _ hb => exact (visit_LiteralNull P M.mLiteralNull M.eLiteralNull r hbc hp hpb hc hj hb rfl call').mono fin
  | boolean _ _ _ _ _ _ _ hb => exact (visit_LiteralBoolean P M.mLiteralBoolean M.eLiteralBoolean r hbc hp hpb hc hj hb rfl call').mono fin
  | number _ _ _ _ _ _ _ hb => exact (visit_LiteralNumber P M.mLiteralNumber M.eLiteralNumber r hbc hp hpb hc hj hb rfl call').mono fin
  | str _ _ _ _ _ _ _ _ hb => exact (visit_LiteralString P M.mLiteralString M.eLiteralString r hbc hp hpb hc hj hb rfl call').mono fin
  | self _ _ _ _ _ _ hb => exact (visit_Self P M.mSelf M.eSelf r hbc hp hpb hc hj hb rfl call').mono fin
  | dollar _ _ _ _ _ _ hb => exact (visit_Dollar P M.mDollar M.eDollar r hbc hp hpb hc hj hb rfl call').mono fin
  | var _ _ _ _ _ _ _ hb => exact (visit_Var P M.mVar M.eVar r hbc hp hpb hc hj hb rfl call').mono fin
  | unary _ _ _ _ _ _ _ _ hb _ => exact (visit_Unary P M.mUnary M.eUnary r hbc hp hpb hc hj hb rfl call').mono fin
  | binary _ _ _ _ _ _ _ _ _ _ _ _ hb _ _ => exact (visit_Binary P M.mBinary M.eBinary r hbc hp hpb hc hj hb rfl call').mono fin
  | if2 _ _ _ _ _ _ _ _ _ _ _ _ _ hb _ _ => exact (visit_Conditional P M.mConditional M.eConditional r hbc hp hpb hc hj hb rfl call').mono fin
  | if3 _ _ _ _ _ _ _ _ _ _ _ _ _ _ _ _ hb _ _ _ => exact (visit_Conditional P M.mConditional M.eConditional r hbc hp hpb hc hj hb rfl call').mono fin
  | brace _ _ _ _ _ _ _ _ _ hb _ _ => exact (visit_ApplyBrace P M.mApplyBrace M.eApplyBrace r hbc hp hpb hc hj hb rfl call').mono fin
  | index _ _ _ _ _ _ _ _ _ _ _ _ _ hb _ _ => exact (visit_Index P M.mIndex M.eIndex r hbc hp hpb hc hj hb rfl call').mono fin
  | dot _ _ _ _ _ _ _ _ _ _ _ _ _ _ _ hb _ _ => exact (visit_Index P M.mIndex M.eIndex r hbc hp hpb hc hj hb rfl call').mono fin
  | error _ _ _ _ _ _ _ hb _ => exact (visit_Error P M.mError M.eError r hbc hp hpb hc hj hb rfl call').mono fin
  | parens _ _ _ _ _ _ _ _ _ hb _ => exact (visit_Parens P M.mParens M.eParens r hbc hp hpb hc hj hb rfl call').mono fin
  | apply _ _ _ _ _ _ _ _ _ _ _ _ _ _ _ _ _ _ _ _ _ _ _ _ _ hb _ _ => exact (visit_Apply P M.mApply M.eApply r hbc hp hpb hc hj hb rfl call').mono fin
  | array _ _ _ _ _ _ _ _ _ _ _ _ _ _ _ _ _ _ hb _ => exact (visit_Array P M.mArray M.eArray r hbc hp hpb hc hj hb rfl call').mono fin
  | object _ _ _ _ _ _ _ _ _ _ _ _ _ _ _ _ _ _ _ _ hb _ _ => exact (visit_Object P M.mObject M.eObject r hbc hp hpb hc hj hb rfl call').mono fin
theorem leaf_LiteralNull (r p n c : Value) (w : World) : Calls Tryz.prog 84 #[r, p, n, c] w fun e w' => e = .returned (.tuple #[]) ∧ w = w' := by
  go_enter Tryz.func84, Tryz.ntmps84
  go_wp2
  go_end0
  exact ⟨rfl, rfl⟩
theorem leaf_LiteralBoolean (r p n c : Value) (w : World) : Calls Tryz.prog 83 #[r, p, n, c] w fun e w' => e = .returned (.tuple #[]) ∧ w = w' := by
  go_enter Tryz.func83, Tryz.ntmps83
  go_wp2
  go_end0
  exact ⟨rfl, rfl⟩
theorem leaf_LiteralNumber (r p n c : Value) (w : World) : Calls Tryz.prog 85 #[r, p, n, c] w fun e w' => e = .returned (.tuple #[]) ∧ w = w' := by
  go_enter Tryz.func85, Tryz.ntmps85
  go_wp2
  go_end0
  exact ⟨rfl, rfl⟩
theorem leaf_LiteralString (r p n c : Value) (w : World) : Calls Tryz.prog 86 #[r, p, n, c] w fun e w' => e = .returned (.tuple #[]) ∧ w = w' := by
  go_enter Tryz.func86, Tryz.ntmps86
  go_wp2
  go_end0
  exact ⟨rfl, rfl⟩
theorem leaf_Self (r p n c : Value) (w : World) : Calls Tryz.prog 91 #[r, p, n, c] w fun e w' => e = .returned (.tuple #[]) ∧ w = w' := by
  go_enter Tryz.func91, Tryz.ntmps91
  go_wp2
  go_end0
  exact ⟨rfl, rfl⟩
theorem leaf_Dollar (r p n c : Value) (w : World) : Calls Tryz.prog 75 #[r, p, n, c] w fun e w' => e = .returned (.tuple #[]) ∧ w = w' := by
  go_enter Tryz.func75, Tryz.ntmps75
  go_wp2
  go_end0
  exact ⟨rfl, rfl⟩
theorem leaf_Var (r p n c : Value) (w : World) : Calls Tryz.prog 95 #[r, p, n, c] w fun e w' => e = .returned (.tuple #[]) ∧ w = w' := by
  go_enter Tryz.func95, Tryz.ntmps95
  go_wp2
  go_end0
  exact ⟨rfl, rfl⟩
end Go.Proofs.YtlgajopaokjjaaaGreatFmt
