/-
  FnLineBehind: the card. What bytes.ErrTooLarge holds is tied to the program's text.
-/
import Derived.Test.YthppionkcfkafaaDoorFnBehind
namespace Go.Proofs.YthppionkcfkafaaDoor
open Go.ChangeShapes Go.WideShapes Go.ChangeAt Go.RowKit Go.Joins Go.WideElems Go.Maps

theorem behindMet (os : Os) (args : Array Value) : laidMetH Tryd.prog Rows.fnLineBehindRow.laid ((World.doorLaid Tryd.prog 128 os).forCall (fun _ _ => 0) ⟨#[], args, []⟩).memory :=
  laidMetH_of_parts3 (fuel := 8) (laidMet_of_run' 8 (by kernel_rfl) (by kernel_rfl)) (by kernel_rfl) (by kernel_rfl)

set_option maxRecDepth 100000 in
theorem fnLineBehind_lifted (os : Os) (started : os.Started) (H : Type) (enc : TypeId × Value → H) :
    ReturnsInHanded {} Tryd.checked os 5 .any (fun w args => (Rows.fnLineBehindSpec.pre enc Tryd.prog Tryd.f5 [] false w args ∧ laidMetH Tryd.prog Rows.fnLineBehindRow.laid w) ∧ sizedMet enc Tryd.prog Tryd.f5 (OpenSpec.ofChange Rows.fnLineBehindSpec) false w args)
      (Rows.fnLineBehindSpec.post enc Tryd.prog Tryd.f5 false true false false) :=
  laid_lift0 (C := Tryd.checked) (tb := 4) 2 own started (by kernel_rfl) Tryd.func5
    (ChangeSpec.witness_shaped (enc := enc) (C := Tryd.checked) (os := os) (X := fun w _ => laidMetH Tryd.prog Rows.fnLineBehindRow.laid w) false (World.doorLaid Tryd.prog 128 os) #[.string ByteArray.empty, .agg #[.int .i64 0, .int .i64 0, .int .i64 0, .int .i64 0]] 8 rfl (World.shaped_of_RefB (by kernel_rfl) (by kernel_rfl)) (by kernel_rfl) (by kernel_rfl) (by kernel_rfl) (behindMet os _))
    laidOut rfl rfl Tryd.underlying4 (params_ok (by kernel_rfl)) rfl (fun ds h => by match ds, h with | [_, _], _ => rfl)
    (fun W base args ds ps hval0 hA0 _ _ => by
      have hA : DataW.TrodAll enc Tryd.prog W 0 (fun _ => true) true Tryd.f5.params.toList args.toList ds ps := hA0
      have hval : ∀ (j : Nat) t v, Tryd.f5.params[j]? = some t → args[j]? = some v → Value.okWide Tryd.prog W .any base t v := hval0
      rw [Tryd.params5] at hA hval
      obtain ⟨v0, v1, d0, d1, p0, p1, rfl, rfl, rfl, h0, h1⟩ := trodAll_two hA
      obtain ⟨s, rfl, rfl, rfl, ws⟩ := Go.ChangeMaps.open_string Tryd.underlying9 (hval 0 9 v0 rfl rfl) h0
      obtain ⟨a, b, c, d, rfl⟩ := open_stretch (hval 1 41 v1 rfl rfl) h1
      exact behind_walk s a b c d W)

theorem fnLineBehind_row : Rows.FnLineBehindSaid :=
  OpenClaim.holds_of_wide 5 Tryd.f5 rfl rfl rfl rfl rfl rfl rfl ⟨rfl, rfl, rfl, rfl, rfl⟩ rfl rfl rfl rfl rfl (by kernel_rfl) Tryd.func5 (by kernel_rfl)
    (of_decide_eq_true (by kernel_rfl)) (by unfold Func.isWrapper; first | (rw [if_pos (by decide +kernel)]; kernel_rfl) | (rw [if_neg (by decide +kernel)]; exact ⟨rfl, rfl⟩))
    (fun os started H enc _ => fnLineBehind_lifted os started H enc)

theorem fnLineBehind : Rows.FnLineBehindCardSaid :=
  Claim7.holds_tied_plain_at .later [] [.sentinel] true (true, _) true
    fnLineBehind_row (fun _ h => by cases h) (by kernel_rfl) (fun _ h => by cases h) fnLineBehind_row_tie rfl ⟨rfl, rfl⟩ (by kernel_rfl) rfl
    (fun f fn hf hfn => by
      obtain rfl : f = 5 := Option.some.inj ((show Tryd.prog.funcNamed "loop.example/pub-sourcepieces/laws.FnLineBehind" = some 5 by kernel_rfl).symm.trans hf) |>.symm
      obtain rfl : fn = Tryd.f5 := (Option.some.inj (Tryd.func5.symm.trans hfn)).symm
      exact ⟨by kernel_rfl, fun j t ht => by
        rw [Tryd.params5] at ht
        have hm := Array.mem_of_getElem? ht
        have hall : ((#[9, 41] : Array TypeId).toList.all fun u => !Tryd.prog.wantsStandIn u) = true := by kernel_rfl
        exact (show Tryd.prog.wantsStandIn t = false by simpa using List.all_eq_true.1 hall t (by simpa using hm))⟩)
    (by kernel_rfl)
#print axioms fnLineBehind
end Go.Proofs.YthppionkcfkafaaDoor
