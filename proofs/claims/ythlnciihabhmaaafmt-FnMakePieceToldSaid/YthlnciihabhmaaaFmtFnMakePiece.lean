/-
  FnMakePiece: the card. Conditions: none beyond the card's.
-/
import Derived.Test.YthlnciihabhmaaaFmtMakeWalk
import Derived.Test.YthlnciihabhmaaaFmtOpen
import Derived.Test.YthlnciihabhmaaaFmtTold
import Derived.Carry
namespace Go.Proofs.YthlnciihabhmaaaFmt
open Go.ChangeShapes Go.WideShapes Go.ChangeAt Go.RowKit Go.Joins Go.Extern.Stop Go.Stop Go.Extern
set_option maxRecDepth 100000 in
theorem fnMakePiece_lifted (os : Os) (started : os.Started) (H : Type) (enc : TypeId × Value → H) :
    ReturnsInTold none {} Tryf.checked os 4 .any Input.okWide ((OpenSpec.ofChange Rows.fnMakePieceSpec).preRow enc Tryf.prog Tryf.f4 [] false []) (fun F => ((OpenSpec.ofChange Rows.fnMakePieceSpec).at F).post enc Tryf.prog Tryf.f4 false true false false) (aloneAtReturn Tryf.prog) nothingAlways :=
  told_lift (C := Tryf.checked) (tb := 4) 4 (by kernel_rfl) own started (by kernel_rfl) Tryf.func4
    (OpenSpec.witness_stopped (enc := enc) (C := Tryf.checked) false ⟨#[], #[.int .i64 0, .int .i64 0, .int .i64 0, .slice none 0 0], []⟩ 8 (by kernel_rfl) (by kernel_rfl) (by kernel_rfl) (by kernel_rfl))
    laidOut rfl rfl Tryf.underlying4 (params_ok (by kernel_rfl)) rfl (fun ds h => by match ds, h with | [_, _, _, _], _ => rfl)
    (fun W base args ds ps hval0 hA0 hlt hsz0 => by
      have hA : DataW.TrodAll enc Tryf.prog W 0 (fun _ => true) true Tryf.f4.params.toList args.toList ds ps := hA0
      have hval : ∀ (j : Nat) t v, Tryf.f4.params[j]? = some t → args[j]? = some v → Value.okWide Tryf.prog W .any base t v := hval0
      have hsz : (DataW.weightsEach Tryf.prog Tryf.f4.params.toList ds).all (· ≤ reachBytes) = true := hsz0
      clear hA0 hval0 hsz0
      rw [Tryf.params4] at hA hval hsz
      obtain ⟨v0, v1, v2, v3, d0, d1, d2, d3, p0, p1, p2, p3, rfl, rfl, rfl, h0, h1, h2, h3⟩ := trodAll_four hA
      obtain ⟨k, rfl, _, _, _⟩ := open_int Tryf.underlying3 (hval 0 3 v0 rfl rfl) h0
      obtain ⟨bl, rfl, _, _, _⟩ := open_int Tryf.underlying3 (hval 1 3 v1 rfl rfl) h1
      obtain ⟨ind, rfl, _, _, _⟩ := open_int Tryf.underlying3 (hval 2 3 v2 rfl rfl) h2
      obtain ⟨a, n, c, rfl⟩ := okWide_slice Tryf.underlying22 (hval 3 22 v3 rfl rfl)
      obtain ⟨fuel, hf⟩ := h3
      obtain ⟨ss, hC, hm⟩ := comm_of_trod hf
      exact make_walk hC hm)

theorem fnMakePiece : Rows.FnMakePieceToldSaid :=
  Claim7.holds_of_told_any 4 Tryf.f4 "fmt.Sprintf" [] [] _ _ _ (by kernel_rfl) rfl rfl rfl laidOut (by kernel_rfl) rfl ⟨rfl, rfl, rfl, rfl, rfl, rfl, rfl⟩ rfl rfl (by kernel_rfl) (by kernel_rfl) Tryf.func4 (by kernel_rfl)
    (of_decide_eq_true (by kernel_rfl)) (by unfold Func.isWrapper; first | (rw [if_pos (by decide +kernel)]; kernel_rfl) | (rw [if_neg (by decide +kernel)]; exact ⟨rfl, rfl⟩)) progStops.symm rfl progStopKnobs.symm (by kernel_rfl)
    (by kernel_rfl) (by kernel_rfl) (by kernel_rfl) (by kernel_rfl) (by kernel_rfl) (by kernel_rfl) (by kernel_rfl) (by kernel_rfl) (by kernel_rfl) rfl (by kernel_rfl) rfl rfl
    rfl rfl
    rfl (by kernel_rfl) (by kernel_rfl) (by kernel_rfl) (by decide) (by kernel_rfl)
    (OpenClaim.moreEntering_of (by kernel_rfl) (by kernel_rfl) (by kernel_rfl) (by kernel_rfl) (by kernel_rfl) (by kernel_rfl) (by kernel_rfl) (by kernel_rfl) (by kernel_rfl) (by kernel_rfl))
    ⟨_, WideRow.started_initial, progQuiet _⟩
    (fun os started _ H enc _ => fnMakePiece_lifted os started H enc)
#print axioms fnMakePiece
end Go.Proofs.YthlnciihabhmaaaFmt
