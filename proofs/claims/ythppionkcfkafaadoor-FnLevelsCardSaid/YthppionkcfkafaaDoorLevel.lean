/-
  The precedence of an operator: the map holds what the program's text lays in it (tied). Conditions: the number of the operator.
-/
import Derived.Test.YthppionkcfkafaaDoorKit
import Derived.Test.YthppionkcfkafaaDoorCards
import Derived.Test.YthppionkcfkafaaDoorTie
import Derived.SevenTiedAt
import Derived.LaidMore
import Derived.Lay
import Derived.MakeChecks
import Derived.ChangeVars
import Derived.ChangeMaps5
import Derived.Maps.OwnSet
import Derived.LoopTactic
import Derived.Deep.DeepWitnessRef
namespace Go.Proofs.YthppionkcfkafaaDoor
open Go.ChangeShapes Go.WideShapes Go.ChangeAt Go.RowKit Go.Joins Go.WideElems Go.Maps

section
variable {H : Type} {enc : TypeId × Value → H} {P : Program}
/-- A named variable reads behind the call as it did. -/
theorem trodVars_below1 (hl : laidOutB P = true) {vn : String} {tv : TypeId} (hr : P.readableRec tv = true) (hrow : tv < P.types.size) (hty : ∀ g, P.globalNamed vn = some g → (P.globals[g]?).map (·.type) = some tv) {W W' : World} {gs : List (DataW H)} {q : List MemPlace}
    (h : DataW.TrodVars enc P W (fun _ => true) [vn] gs q) (hb : Below W.heap.size W W') (hlt : ∀ x ∈ q, x.block < W.heap.size) :
    DataW.TrodVars enc P W' (fun b => decide (b < W.heap.size)) [vn] gs q := by
  obtain ⟨g, t, cs, fuel, d, p, rfl, hg, ht, hv, hd, rfl⟩ := trodVars_one h
  have e : t = tv := Option.some.inj (ht.symm.trans (hty g hg))
  subst e
  refine ⟨g, t, cs, fuel, p, [], hg, ht, var_stays hg hv hb (Nat.le_refl _), ?_, rfl, by simp⟩
  exact DataW.trod_stays (kids_book hl hr) (book_sized hr) (fun h => by cases h) ⟨hrow, book_self t⟩ hd (fun x hx => hb.same (hlt x (by simp [hx]))) (fun x hx => by simpa using hlt x (by simp [hx]))
/-- A law with a named variable and with listed data. -/
theorem laid_lift1 {C : Checked} {os : Os} {f : FuncId} {fn : Func} {s : ChangeSpec} {tb tv : TypeId} {vn : String} {laid : List (String × DataW Unit)} (n : Nat)
    (own : ownKnob C.prog.godebug = none) (started : os.Started) (noInit : C.prog.inits.idxOf? f = none) (hfn : C.prog.funcs[f]? = some fn)
    (witness : ∃ (w : World) (tape : Tape) (i : Input), w.os = os ∧ (w.forCall tape i).Shaped C.prog ∧ i.vars = [] ∧ Input.okWide C.prog (w.forCall tape i) .any w.heap.size f i ∧
      ((s.pre enc C.prog fn [] false (w.forCall tape i).memory i.args ∧ laidMetH C.prog laid (w.forCall tape i).memory) ∧ sizedMet enc C.prog fn (OpenSpec.ofChange s) false (w.forCall tape i).memory i.args) ∧ ({} : Assume).holds C.prog (lone (Frame.enter C.prog f i.args .normal) [] (w.forCall tape i)))
    (hl : laidOutB C.prog = true) (hvars : s.vars = [vn]) (hrt : fn.resultTypes = #[tb]) (hb : C.prog.underlying tb = some .bool)
    (hr : ∀ t ∈ fn.params.toList, C.prog.readableRec t = true ∧ t < C.prog.types.size) (hrv : C.prog.readableRec tv = true) (hrowv : tv < C.prog.types.size)
    (hty : ∀ g, C.prog.globalNamed vn = some g → (C.prog.globals[g]?).map (·.type) = some tv)
    (hn : fn.params.toList.length = n)
    (hs : ∀ (ds : List (DataW H)) (g : DataW H), ds.length = n → s.fn H (ds ++ [g]) = { results := [.lit (.bool true)], args := ds, vars := [g] })
    (walk : ∀ (W : World) (base : Nat) (args : Array Value) (ds : List (DataW H)) (ps : List MemPlace),
      (∀ (j : Nat) t v, fn.params[j]? = some t → args[j]? = some v → Value.okWide C.prog W .any base t v) →
      DataW.TrodAll enc C.prog W 0 (fun _ => true) true fn.params.toList args.toList ds ps →
      (∀ (j : Nat) (t : TypeId) (d : DataW H), fn.params.toList[j]? = some t → ds[j]? = some d → ∀ m ∈ d.weights C.prog t, m ≤ reachBytes) →
      laidMetH C.prog laid W →
      Calls C.prog f args W fun e W' => e = .returned (.bool true) ∧ Below W.heap.size W W') :
    ReturnsInHanded {} C os f .any (fun w args => (s.pre enc C.prog fn [] false w args ∧ laidMetH C.prog laid w) ∧ sizedMet enc C.prog fn (OpenSpec.ofChange s) false w args) (s.post enc C.prog fn false true false false) := by
  refine returnsInHanded_of_change_and (C := C) (X := fun w _ => laidMetH C.prog laid w) (fun _ _ _ hh h => h.of_heap hh) own started noInit hfn witness ?_
  intro W base args ds gs before hval hW _ hsz hL _
  have hW' : DataW.Whole enc C.prog fn.params.toList s.vars false W args.toList ds gs before := hW
  have hW2 := hW'
  obtain ⟨p, q, hA, hV, rfl, hfz, hnd⟩ := hW2
  have hlt := hW'.lt
  refine (walk W base args ds p hval hA (fun j t d ht hd m hm => ?_) hL).mono fun e W' ⟨he, hg⟩ => ?_
  · have hj1 := (List.getElem?_eq_some_iff.1 ht).1
    have hj2 := (List.getElem?_eq_some_iff.1 hd).1
    have := List.all_eq_true.1 hsz m (DataW.weights_mem_each (j := j) (t := t) (d := d) (by rw [List.getElem?_append_left hj1]; exact ht) (by rw [List.getElem?_append_left hj2]; exact hd) m hm)
    simpa using this
  rw [hvars] at hV
  obtain ⟨g, t, cs, fuel, d, p', rfl, _, _, _, _, _⟩ := trodVars_one hV
  have hlen : ds.length = n := by rw [← hn]; exact trodAll_length hA
  refine ⟨_, he, ?_⟩
  refine ⟨ds, [d], _, [], p, q, hW', ?_, ?_, ?_, hg.frame _, fun h => by cases h⟩
  · rw [hs ds d hlen, hrt]
    exact trodAll_mk1 (shut_bool hb true)
  · rw [hs ds d hlen]
    exact trodAll_below hl hg hr hA (fun x hx => hlt x (by simp [hx]))
  · rw [hs ds d hlen, hvars]
    exact trodVars_below1 hl hrv hrowv hty hV hg (fun x hx => hlt x (by simp [hx]))
end

/-- How tight an operator binds. -/
def bindsF (k : Int) : Int := if k < 3 then 0 else if k < 5 then 1 else if k < 7 then 2 else if k < 12 then 3 else if k < 14 then 4 else if k < 15 then 5 else if k < 16 then 6 else if k < 17 then 7 else if k < 18 then 8 else 9
theorem bindsF_le (k : Int) : 0 ≤ bindsF k ∧ bindsF k ≤ 9 := by unfold bindsF; (repeat' split) <;> omega
theorem at_levels {H : Type} : ∀ k : Nat, k < 19 → (Rows.laid_loop_example_pub_sourcepieces_pub_jsonnet_inner_ast_bopPrecedence : DataW H).atKey (.int .i64 (k : Int)) (.lit (.int .i64 0)) = .lit (.int .i64 (bindsF k + 5)) := by
  intro k hk
  obtain rfl | rfl | rfl | rfl | rfl | rfl | rfl | rfl | rfl | rfl | rfl | rfl | rfl | rfl | rfl | rfl | rfl | rfl | rfl : k = 0 ∨ k = 1 ∨ k = 2 ∨ k = 3 ∨ k = 4 ∨ k = 5 ∨ k = 6 ∨ k = 7 ∨ k = 8 ∨ k = 9 ∨ k = 10 ∨ k = 11 ∨ k = 12 ∨ k = 13 ∨ k = 14 ∨ k = 15 ∨ k = 16 ∨ k = 17 ∨ k = 18 := by omega
  all_goals rfl
theorem gLev : Tryd.prog.globalNamed "loop.example/pub-sourcepieces/pub/jsonnet/inner/ast.bopPrecedence" = some 0 := by kernel_rfl
theorem tLev : (Tryd.prog.globals[0]?).map (·.type) = some 81 := by kernel_rfl
theorem keyOp : Keyed Tryd.prog 90 := int_keyed Tryd.underlying90
theorem zeroLev (w : World) : (zeroValue 51).run Tryd.prog w = .ok (.int .i64 0) w := by kernel_rfl
/-- What the listed map gives a walk: the variable's cell, and each look-up, in whatever world that keeps the map. -/
def HasLev (W : World) (bm : Nat) : Prop := W.cell? ⟨0, 0, none⟩ = some (.map (some bm)) ∧ 0 < W.heap.size ∧
  ∀ (k : Nat), k < 19 → (Instr.lookup 81 (.map (some bm)) (.int .i64 (k : Int)) false).run Tryd.prog W = .ok (.int .i64 (bindsF k + 5)) W
set_option maxRecDepth 100000 in
theorem lev_of_laid {W : World} (h : laidMetH Tryd.prog [("loop.example/pub-sourcepieces/pub/jsonnet/inner/ast.bopPrecedence", Rows.laid_loop_example_pub_sourcepieces_pub_jsonnet_inner_ast_bopPrecedence)] W) : ∃ bm, ∀ w', Below W.heap.size W w' → HasLev w' bm := by
  rw [MakeChecks.laidMetH_plain _ _ _ (by kernel_rfl)] at h
  obtain ⟨ps, ⟨g0, t0, cs0, f0, p0, q0, hg0, ht0, hv0, hd0, _⟩, _, _⟩ := h
  obtain rfl := Option.some.inj (gLev.symm.trans hg0)
  obtain rfl := Option.some.inj (tLev.symm.trans ht0)
  rcases WideElems.open_map Tryd.underlying81 hd0 with ⟨_, hx⟩ | ⟨bm, es, clock, m, rfl, hcs, hb, _, F, hx⟩
  · simp [Rows.laid_loop_example_pub_sourcepieces_pub_jsonnet_inner_ast_bopPrecedence] at hx
  simp only [Prod.mk.injEq] at hx
  have hcell : W.cell? ⟨0, 0, none⟩ = some (.map (some bm)) := by
    have := World.var?_cell hg0 hv0 0
    rw [Array.eq_one_of_toList hcs] at this
    simpa using this
  have hlt := World.block_lt_of_cell? W _ hcell
  have hbm : bm < W.heap.size := lt_of_block hb
  have hown := World.ownsMap_of_fit (R := plainElem Tryd.prog 51) hb F (fun x _ z hz => elemAt_plainElem_int Tryd.underlying51 hz)
  rw [← hx.1] at hown
  refine ⟨bm, fun w' hB => ⟨(hB.cell (p := ⟨_, 0, none⟩) hlt).trans hcell, Nat.lt_of_lt_of_le hlt hB.size, fun k hk => ?_⟩⟩
  obtain ⟨es', clock', hb', F', hle, hDD⟩ := hown
  have hown' : w'.ownsMap Tryd.prog 90 (plainElem Tryd.prog 51) bm es.size Rows.laid_loop_example_pub_sourcepieces_pub_jsonnet_inner_ast_bopPrecedence := ⟨es', clock', by rw [hB.block bm hbm]; exact hb', F', hle, hDD⟩
  obtain ⟨c', hrun, hat, _⟩ := hown'.lookup_int keyOp Tryd.underlying81 Tryd.underlying51 (zeroLev _) (keyOf_int_mk Tryd.underlying90 (WalkArith.wf_i64 (n := (k : Int)) ⟨by omega, by omega⟩))
  rw [hrun]
  rw [at_levels k hk] at hat
  injection hat with hat
  injection hat with _ hat
  rw [hat]
end Go.Proofs.YthppionkcfkafaaDoor
