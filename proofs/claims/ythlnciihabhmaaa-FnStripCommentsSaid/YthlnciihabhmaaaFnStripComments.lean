/-
  FnStripComments: the row. Conditions: none.
-/
import Derived.Test.YthlnciihabhmaaaStripCWalk
import Derived.Test.YthlnciihabhmaaaOpen
namespace Go.Proofs.Ythlnciihabhmaaa
open Go.ChangeShapes Go.WideShapes Go.ChangeAt Go.RowKit Go.Joins
set_option maxRecDepth 100000 in
theorem fnStripComments_lifted (os : Os) (started : os.Started) (H : Type) (enc : TypeId × Value → H) :
    ReturnsInHanded {} Try.checked os 7 .any (Rows.fnStripCommentsSpec.pre6 enc Try.prog Try.f7 Rows.fnStripCommentsRow.domain false) (Rows.fnStripCommentsSpec.post enc Try.prog Try.f7 false true false false) :=
  law_lift (C := Try.checked) (tb := 4) 1 own started (by kernel_rfl) Try.func7
    (ChangeSpec.witness6 (enc := enc) (C := Try.checked) false ⟨#[], #[.slice none 0 0], []⟩ 8 (by kernel_rfl) (by kernel_rfl) (by kernel_rfl) (by kernel_rfl))
    laidOut rfl rfl Try.underlying4 (params_ok (by kernel_rfl)) rfl (fun ds h => by match ds, h with | [_], _ => rfl)
    (fun W base args ds ps hval0 hA0 hlt hsz0 => by
      have hA : DataW.TrodAll enc Try.prog W 0 (fun _ => true) true Try.f7.params.toList args.toList ds ps := hA0
      have hval : ∀ (j : Nat) t v, Try.f7.params[j]? = some t → args[j]? = some v → Value.okWide Try.prog W .any base t v := hval0
      have hsz : (DataW.weightsEach Try.prog Try.f7.params.toList ds).all (· ≤ reachBytes) = true := hsz0
      clear hA0 hval0 hsz0
      rw [Try.params7] at hA hval hsz
      obtain ⟨v0, d0, rfl, rfl, h0⟩ := trodAll_one hA
      obtain ⟨l0, hP0, hl0, hs0⟩ := open_arg (hval 0 22 v0 rfl rfl) h0
      exact stripC_walk hP0 hl0 hs0)

theorem fnStripComments : Rows.FnStripCommentsSaid :=
  OpenClaim.holds_of_wide 7 Try.f7 rfl rfl rfl rfl rfl rfl rfl ⟨rfl, rfl, rfl, rfl, rfl⟩ rfl rfl rfl rfl rfl (by kernel_rfl) Try.func7 (by kernel_rfl)
    (of_decide_eq_true (by kernel_rfl)) (by unfold Func.isWrapper; first | (rw [if_pos (by decide +kernel)]; kernel_rfl) | (rw [if_neg (by decide +kernel)]; exact ⟨rfl, rfl⟩))
    (fun os started H enc _ => fnStripComments_lifted os started H enc)
#print axioms fnStripComments
end Go.Proofs.Ythlnciihabhmaaa
