/-
  FnPrettyNames: the card. Conditions: none beyond the card's.
-/
import Derived.Test.YtlgajopaokjjaaaGreatFmtFnPrettyNamesWalk
import Derived.Test.YtlgajopaokjjaaaGreatFmtBase
namespace Go.Proofs.YtlgajopaokjjaaaGreatFmt
open Go.ChangeShapes Go.WideShapes Go.ChangeAt Go.RowKit Go.Joins Go.Extern.Stop Go.Stop Go.Extern
set_option maxRecDepth 100000 in
theorem fnPrettyNames_lifted (os : Os) (started : os.Started) (H : Type) (enc : TypeId × Value → H) :
    ReturnsInTold none {} Tryz.checked os 3 .any Input.okWide ((OpenSpec.ofChange Rows.fnPrettyNamesSpec).preRow enc Tryz.prog Tryz.f3 [] false []) (fun F => ((OpenSpec.ofChange Rows.fnPrettyNamesSpec).at F).post enc Tryz.prog Tryz.f3 false true false false) (aloneAtReturn Tryz.prog) nothingAlways :=
  told_lift (C := Tryz.checked) (tb := 4) 1 (by kernel_rfl) own started (by kernel_rfl) Tryz.func3
    (OpenSpec.witness_stopped (enc := enc) (C := Tryz.checked) false ⟨#[], #[.agg #[.int .i64 0, .string ByteArray.empty, .int .i64 0, .bool false, .slice none 0 0]], []⟩ 8 (by kernel_rfl) (by kernel_rfl) (by kernel_rfl) (by kernel_rfl))
    laidOut rfl rfl Tryz.underlying4 (params_ok (by kernel_rfl)) rfl (fun ds h => by match ds, h with | [_], _ => rfl)
    (fun W base args ds ps hval0 hA0 hlt hsz0 => by
      have hA : DataW.TrodAll enc Tryz.prog W 0 (fun _ => true) true Tryz.f3.params.toList args.toList ds ps := hA0
      have hval : ∀ (j : Nat) t v, Tryz.f3.params[j]? = some t → args[j]? = some v → Value.okWide Tryz.prog W .any base t v := hval0
      have hsz : (DataW.weightsEach Tryz.prog Tryz.f3.params.toList ds).all (· ≤ reachBytes) = true := hsz0
      clear hA0 hval0 hsz0
      rw [Tryz.params3] at hA hval hsz
      obtain ⟨v0, d0, rfl, rfl, h0⟩ := trodAll_one hA
      have hwt : ∀ m ∈ d0.weights Tryz.prog 24, m ≤ reachBytes := fun m hm => by
        have := List.all_eq_true.1 hsz m (by simpa [DataW.weightsEach] using hm)
        simpa using this
      obtain ⟨t, u, rfl, hs, hbd⟩ := open_node (hval 0 24 v0 rfl rfl) h0 hwt
      exact namesLaw_walk hs hbd)

theorem fnPrettyNames : Rows.FnPrettyNamesToldSaid :=
  Claim7.holds_of_told_any 3 Tryz.f3 "fmt.Sprintf" [] [] _ _ _ (by kernel_rfl) rfl rfl rfl laidOut (by kernel_rfl) rfl ⟨rfl, rfl, rfl, rfl, rfl, rfl, rfl⟩ rfl rfl (by kernel_rfl) (by kernel_rfl) Tryz.func3 (by kernel_rfl)
    (of_decide_eq_true (by kernel_rfl)) (by unfold Func.isWrapper; first | (rw [if_pos (by decide +kernel)]; kernel_rfl) | (rw [if_neg (by decide +kernel)]; exact ⟨rfl, rfl⟩)) progStops.symm rfl progStopKnobs.symm (by kernel_rfl)
    (by kernel_rfl) (by kernel_rfl) (by kernel_rfl) (by kernel_rfl) (by kernel_rfl) (by kernel_rfl) (by kernel_rfl) (by kernel_rfl) (by kernel_rfl) rfl (by kernel_rfl) rfl rfl
    rfl rfl
    rfl (by kernel_rfl) (by kernel_rfl) (by kernel_rfl) (by decide) (by kernel_rfl)
    (OpenClaim.moreEntering_of (by kernel_rfl) (by kernel_rfl) (by kernel_rfl) (by kernel_rfl) (by kernel_rfl) (by kernel_rfl) (by kernel_rfl) (by kernel_rfl) (by kernel_rfl) (by kernel_rfl))
    ⟨_, WideRow.started_initial, progQuiet _⟩
    (fun os started _ H enc _ => fnPrettyNames_lifted os started H enc)
#print axioms fnPrettyNames
end Go.Proofs.YtlgajopaokjjaaaGreatFmt
