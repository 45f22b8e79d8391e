/-
  FnLevels: the card. The map of the precedences holds what the program's text lays in it (tied).
-/
import Derived.Test.YthppionkcfkafaaDoorFnLevelsWalk
import Derived.Test.YthppionkcfkafaaDoorTreeOpen
namespace Go.Proofs.YthppionkcfkafaaDoor
open Go.ChangeShapes Go.WideShapes Go.ChangeAt Go.RowKit Go.Joins Go.WideElems Go.Maps

theorem levelsMet (os : Os) (args : Array Value) : laidMetH Tryd.prog Rows.fnLevelsRow.laid ((World.doorLaid Tryd.prog 128 os).forCall (fun _ _ => 0) ⟨#[], args, []⟩).memory :=
  laidMetH_of_parts3 (fuel := 8) (laidMet_of_run' 8 (by kernel_rfl) (by kernel_rfl)) (by kernel_rfl) (by kernel_rfl)

set_option maxRecDepth 100000 in
theorem fnLevels_lifted (os : Os) (started : os.Started) (H : Type) (enc : TypeId × Value → H) :
    ReturnsInHanded {} Tryd.checked os 3 .any (fun w args => (Rows.fnLevelsSpec.pre enc Tryd.prog Tryd.f3 [] false w args ∧ laidMetH Tryd.prog Rows.fnLevelsRow.laid w) ∧ sizedMet enc Tryd.prog Tryd.f3 (OpenSpec.ofChange Rows.fnLevelsSpec) false w args)
      (Rows.fnLevelsSpec.post enc Tryd.prog Tryd.f3 false true false false) :=
  laid_lift1 (C := Tryd.checked) (tb := 4) (tv := 81) (vn := "loop.example/pub-sourcepieces/pub/jsonnet/inner/ast.bopPrecedence") 2 own started (by kernel_rfl) Tryd.func3
    (ChangeSpec.witness_shaped (enc := enc) (C := Tryd.checked) (os := os) (X := fun w _ => laidMetH Tryd.prog Rows.fnLevelsRow.laid w) false (World.doorLaid Tryd.prog 128 os) #[.agg #[.int .i64 0, .string ByteArray.empty, .int .i64 0, .bool false, .slice none 0 0], .agg #[.int .i64 0, .string ByteArray.empty, .int .i64 0, .bool false, .slice none 0 0]] 8 rfl (World.shaped_of_RefB (by kernel_rfl) (by kernel_rfl)) (by kernel_rfl) (by kernel_rfl) (by kernel_rfl) (levelsMet os _))
    laidOut rfl rfl Tryd.underlying4 (params_ok (by kernel_rfl)) (by kernel_rfl) (of_decide_eq_true (by kernel_rfl)) (fun g hg => by
      obtain rfl := Option.some.inj (gLev.symm.trans hg)
      kernel_rfl) rfl (fun ds g h => by match ds, h with | [_, _], _ => rfl)
    (fun W base args ds ps hval0 hA0 hw0 hL => by
      have hA : DataW.TrodAll enc Tryd.prog W 0 (fun _ => true) true Tryd.f3.params.toList args.toList ds ps := hA0
      have hval : ∀ (j : Nat) t v, Tryd.f3.params[j]? = some t → args[j]? = some v → Value.okWide Tryd.prog W .any base t v := hval0
      have hw : ∀ (j : Nat) (t : TypeId) (d : DataW H), Tryd.f3.params.toList[j]? = some t → ds[j]? = some d → ∀ m ∈ d.weights Tryd.prog t, m ≤ reachBytes := hw0
      clear hA0 hval0 hw0
      rw [Tryd.params3] at hA hval hw
      obtain ⟨v0, v1, d0, d1, p0, p1, rfl, rfl, rfl, h0, h1⟩ := trodAll_two hA
      obtain ⟨t, u, rfl, hs, hbd⟩ := open_node (hval 0 24 v0 rfl rfl) h0 (hw 0 24 d0 rfl rfl)
      obtain ⟨s, v, rfl, ht, hbd2⟩ := open_node (hval 1 24 v1 rfl rfl) h1 (hw 1 24 d1 rfl rfl)
      obtain ⟨bm, hb⟩ := lev_of_laid hL
      exact levels_walk hs ht hbd hbd2 hb)

theorem fnLevels_row : Rows.FnLevelsSaid :=
  OpenClaim.holds_of_wide 3 Tryd.f3 rfl rfl rfl rfl rfl rfl rfl ⟨rfl, rfl, rfl, rfl, rfl⟩ rfl rfl rfl rfl rfl (by kernel_rfl) Tryd.func3 (by kernel_rfl)
    (of_decide_eq_true (by kernel_rfl)) (by unfold Func.isWrapper; first | (rw [if_pos (by decide +kernel)]; kernel_rfl) | (rw [if_neg (by decide +kernel)]; exact ⟨rfl, rfl⟩))
    (fun os started H enc _ => fnLevels_lifted os started H enc)

theorem fnLevels : Rows.FnLevelsCardSaid :=
  Claim7.holds_tied_plain_at .later [] [.mapped] true (true, _) true
    fnLevels_row (fun _ h => by cases h) (by kernel_rfl) (fun _ h => by cases h) fnLevels_row_tie rfl ⟨rfl, rfl⟩ (by kernel_rfl) rfl
    (fun f fn hf hfn => by
      obtain rfl : f = 3 := Option.some.inj ((show Tryd.prog.funcNamed "loop.example/pub-sourcepieces/laws.FnLevels" = some 3 by kernel_rfl).symm.trans hf) |>.symm
      obtain rfl : fn = Tryd.f3 := (Option.some.inj (Tryd.func3.symm.trans hfn)).symm
      exact ⟨by kernel_rfl, fun j t ht => by
        rw [Tryd.params3] at ht
        have hm := Array.mem_of_getElem? ht
        have hall : ((#[24, 24] : Array TypeId).toList.all fun u => !Tryd.prog.wantsStandIn u) = true := by kernel_rfl
        exact (show Tryd.prog.wantsStandIn t = false by simpa using List.all_eq_true.1 hall t (by simpa using hm))⟩)
    (by kernel_rfl)
#print axioms fnLevels
end Go.Proofs.YthppionkcfkafaaDoor
