/-
  FnBetween: from a stretch to one that neither begins nor ends ahead of it, both are contained. No condition.
-/
import Derived.Test.YthppionkcfkafaaBetweenW2
namespace Go.Proofs.Ythppionkcfkafaa
open Go.ChangeShapes Go.WideShapes Go.ChangeAt Go.RowKit Go.Joins

set_option maxRecDepth 100000 in
theorem between_holds_lifted (os : Os) (started : os.Started) (H : Type) (enc : TypeId × Value → H) :
    ReturnsInHanded {} Try.checked os 3 .any (Rows.fnBetweenSpec.pre6 enc Try.prog Try.f3 Rows.fnBetweenRow.domain false) (Rows.fnBetweenSpec.post enc Try.prog Try.f3 false true false false) :=
  law_lift (C := Try.checked) (tb := 4) 2 own started (by kernel_rfl) Try.func3
    (ChangeSpec.witness6 (enc := enc) (C := Try.checked) false ⟨#[], #[.agg #[.int .i64 0, .int .i64 0, .int .i64 0, .int .i64 0], .agg #[.int .i64 0, .int .i64 0, .int .i64 0, .int .i64 0]], []⟩ 8 (by kernel_rfl) (by kernel_rfl) (by kernel_rfl) (by kernel_rfl))
    laidOut rfl rfl Try.underlying4 (params_ok (by kernel_rfl)) rfl (fun ds h => by match ds, h with | [_, _], _ => rfl)
    (fun W base args ds ps hval0 hA0 hlt hsz0 => by
      have hA : DataW.TrodAll enc Try.prog W 0 (fun _ => true) true Try.f3.params.toList args.toList ds ps := hA0
      have hval : ∀ (j : Nat) t v, Try.f3.params[j]? = some t → args[j]? = some v → Value.okWide Try.prog W .any base t v := hval0
      have hsz : (DataW.weightsEach Try.prog Try.f3.params.toList ds).all (· ≤ reachBytes) = true := hsz0
      clear hA0 hval0 hsz0
      rw [Try.params3] at hA hval hsz
      obtain ⟨v0, v1, d0, d1, p0, p1, rfl, rfl, rfl, h0, h1⟩ := trodAll_two hA
      obtain ⟨a, b, c, d, rfl⟩ := open_stretch (hval 0 25 v0 rfl rfl) h0
      obtain ⟨p, q, r, s, rfl⟩ := open_stretch (hval 1 25 v1 rfl rfl) h1
      exact between_walk a b c d p q r s W)

theorem between_holds : Rows.FnBetweenSaid :=
  OpenClaim.holds_of_wide 3 Try.f3 rfl rfl rfl rfl rfl rfl rfl ⟨rfl, rfl, rfl, rfl, rfl⟩ rfl rfl rfl rfl rfl (by kernel_rfl) Try.func3 (by kernel_rfl)
    (of_decide_eq_true (by kernel_rfl)) (by unfold Func.isWrapper; first | (rw [if_pos (by decide +kernel)]; kernel_rfl) | (rw [if_neg (by decide +kernel)]; exact ⟨rfl, rfl⟩))
    (fun os started H enc _ => between_holds_lifted os started H enc)
#print axioms between_holds
end Go.Proofs.Ythppionkcfkafaa
