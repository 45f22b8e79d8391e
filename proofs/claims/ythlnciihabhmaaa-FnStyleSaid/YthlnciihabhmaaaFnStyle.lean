/-
  FnStyle: the row. Conditions: none.
-/
import Derived.Test.YthlnciihabhmaaaStyleWalk
import Derived.Test.YthlnciihabhmaaaOpen
namespace Go.Proofs.Ythlnciihabhmaaa
open Go.ChangeShapes Go.WideShapes Go.ChangeAt Go.RowKit Go.Joins
set_option maxRecDepth 100000 in
theorem fnStyle_lifted (os : Os) (started : os.Started) (H : Type) (enc : TypeId × Value → H) :
    ReturnsInHanded {} Try.checked os 5 .any (Rows.fnStyleSpec.pre6 enc Try.prog Try.f5 Rows.fnStyleRow.domain false) (Rows.fnStyleSpec.post enc Try.prog Try.f5 false true false false) :=
  law_lift (C := Try.checked) (tb := 4) 2 own started (by kernel_rfl) Try.func5
    (ChangeSpec.witness6 (enc := enc) (C := Try.checked) false ⟨#[], #[.int .i64 0, .agg #[.int .i64 0, .int .i64 0, .int .i64 0, .slice none 0 0]], []⟩ 8 (by kernel_rfl) (by kernel_rfl) (by kernel_rfl) (by kernel_rfl))
    laidOut rfl rfl Try.underlying4 (params_ok (by kernel_rfl)) rfl (fun ds h => by match ds, h with | [_, _], _ => rfl)
    (fun W base args ds ps hval0 hA0 hlt hsz0 => by
      have hA : DataW.TrodAll enc Try.prog W 0 (fun _ => true) true Try.f5.params.toList args.toList ds ps := hA0
      have hval : ∀ (j : Nat) t v, Try.f5.params[j]? = some t → args[j]? = some v → Value.okWide Try.prog W .any base t v := hval0
      have hsz : (DataW.weightsEach Try.prog Try.f5.params.toList ds).all (· ≤ reachBytes) = true := hsz0
      clear hA0 hval0 hsz0
      rw [Try.params5] at hA hval hsz
      obtain ⟨v0, v1, d0, d1, p0, p1, rfl, rfl, rfl, h0, h1⟩ := trodAll_two hA
      obtain ⟨m, rfl, _, _, _⟩ := open_int Try.underlying3 (hval 0 3 v0 rfl rfl) h0
      obtain ⟨k, bl, ind, u, ss, rfl, hC, hm⟩ := open_piece (hval 1 29 v1 rfl rfl) h1
      exact style_walk hC hm)

theorem fnStyle : Rows.FnStyleSaid :=
  OpenClaim.holds_of_wide 5 Try.f5 rfl rfl rfl rfl rfl rfl rfl ⟨rfl, rfl, rfl, rfl, rfl⟩ rfl rfl rfl rfl rfl (by kernel_rfl) Try.func5 (by kernel_rfl)
    (of_decide_eq_true (by kernel_rfl)) (by unfold Func.isWrapper; first | (rw [if_pos (by decide +kernel)]; kernel_rfl) | (rw [if_neg (by decide +kernel)]; exact ⟨rfl, rfl⟩))
    (fun os started H enc _ => fnStyle_lifted os started H enc)
#print axioms fnStyle
end Go.Proofs.Ythlnciihabhmaaa
