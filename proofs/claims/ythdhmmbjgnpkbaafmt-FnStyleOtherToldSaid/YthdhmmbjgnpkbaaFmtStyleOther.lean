/-
  FnStyleOther: other strings stay as they are: the pass returns at once for their kinds. No call of fmt is reached, and no listed variable is read.
-/
import Derived.Test.YthdhmmbjgnpkbaaFmtKit
import Derived.Test.YthdhmmbjgnpkbaaFmtCards
import Derived.Test.YthdhmmbjgnpkbaaFmtTie
import Derived.Stop.JoinedTold
import Derived.SevenToldRow
import Derived.SevenTiedAt
import Derived.LaidMore
import Derived.Lay
import Derived.MakeChecks
import Derived.ChangeVars
import Derived.ChangeMaps5
namespace Go.Proofs.YthdhmmbjgnpkbaaFmt
open Go.ChangeShapes Go.WideShapes Go.ChangeAt Go.RowKit Go.Joins Go.Extern.Stop Go.Stop Go.Extern

theorem progStops : Tryf.pinned.checked.prog.stops = ["fmt.Sprintf"] := by kernel_rfl
theorem progStopKnobs : Tryf.pinned.checked.prog.stopKnobs = [] := by kernel_rfl
theorem progQuiet (os : Os) : Stop.quiet Tryf.pinned.checked.prog os := by
  intro k hk
  rw [progStopKnobs] at hk
  cases hk

/-- A told law that lists data and no variable. -/
theorem told_liftL {H : Type} {enc : TypeId × Value → H} {C : Checked} {os : Os} {f : FuncId} {fn : Func} {s : ChangeSpec} {tb : TypeId} {laid : List (String × DataW Unit)} (n : Nat)
    (enter : C.prog.mayEnter = true) (own : ownKnob C.prog.godebug = none) (started : os.Started) (noInit : C.prog.inits.idxOf? f = none) (hfn : C.prog.funcs[f]? = some fn)
    (witness : ∀ F : Stop.Interp, ∃ (w : World) (tape : Tape) (i : Input), w.os = os ∧ (w.forCall tape i).Shaped C.prog ∧ i.vars = [] ∧ Input.okWide C.prog (w.forCall tape i) .any w.heap.size f i ∧
      (OpenSpec.ofChange s).preRow enc C.prog fn [] false laid (w.forCall tape i).memory i.args ∧ ({} : Assume).holds C.prog (lone (Frame.enter C.prog f i.args .normal) [] (w.forCall tape i)) ∧ F.answers tape)
    (hl : laidOutB C.prog = true) (hvars : s.vars = []) (hrt : fn.resultTypes = #[tb]) (hb : C.prog.underlying tb = some .bool)
    (hr : ∀ t ∈ fn.params.toList, C.prog.readableRec t = true ∧ t < C.prog.types.size)
    (hn : fn.params.toList.length = n)
    (hs : ∀ ds : List (DataW H), ds.length = n → s.fn H ds = { results := [.lit (.bool true)], args := ds })
    (walk : ∀ (W : World) (base : Nat) (args : Array Value) (ds : List (DataW H)) (ps : List MemPlace),
      (∀ (j : Nat) t v, fn.params[j]? = some t → args[j]? = some v → Value.okWide C.prog W .any base t v) →
      DataW.TrodAll enc C.prog W 0 (fun _ => true) true fn.params.toList args.toList ds ps →
      (∀ x ∈ ps, x.block < W.heap.size) →
      (DataW.weightsEach C.prog fn.params.toList ds).all (· ≤ reachBytes) = true →
      laidMetH C.prog laid W →
      Calls C.prog f args W fun e W' => e = .returned (.bool true) ∧ Below W.heap.size W W') :
    ReturnsInTold none {} C os f .any Input.okWide ((OpenSpec.ofChange s).preRow enc C.prog fn [] false laid) (fun F => ((OpenSpec.ofChange s).at F).post enc C.prog fn false true false false) (aloneAtReturn C.prog) nothingAlways := by
  refine returnsInTold_of_row enter own started noInit hfn witness ?_
  intro F W base args ds gs before _ hF hval hW _ _ hsz hL _
  have hW' : DataW.Whole enc C.prog fn.params.toList s.vars false W args.toList ds gs before := hW
  obtain ⟨p, hA, rfl, rfl⟩ : ∃ p, DataW.TrodAll enc C.prog W 0 (fun _ => true) true fn.params.toList args.toList ds p ∧ gs = [] ∧ before = p := by
    obtain ⟨p, q, hA, hV, e, hfz, hnd⟩ := hW'
    rw [hvars] at hV
    obtain ⟨e1, rfl⟩ := trodVars_none hV
    exact ⟨p, hA, e1, by simpa using e⟩
  have hsz' : (DataW.weightsEach C.prog fn.params.toList ds).all (· ≤ reachBytes) = true := by
    have e : (OpenSpec.ofChange s).bare.plain.varTypes C.prog = [] := by
      show s.vars.filterMap _ = []
      rw [hvars]; rfl
    rw [e] at hsz
    simpa using hsz
  refine (walk W base args ds _ hval hA (fun x hx => hW'.lt x hx) hsz' hL).mono fun e W' ⟨he, hg⟩ => ?_
  exact ⟨_, he, law_post hl hvars hrt hb hr (hs ds (by rw [← hn]; exact trodAll_length hA)) hW' hg⟩

theorem other_two (st : Int) (s : ByteArray) (w : World) :
    Calls Tryf.prog 5 #[.int .i64 st, .int .i64 2, .string s] w fun e w' => e = .returned (.tuple #[.int .i64 2, .string s]) ∧ Below w.heap.size w w' := by
  go_enter Tryf.func5, Tryf.ntmps5
  go_wp2_with fail
  go_at_call 11
  go_enter Tryf.func11, Tryf.ntmps11
  go_wp2
  refine bodyPost_ret (results_none rfl _ _ _) rfl ?_
  go_wp2
  refine wp_region_quiet_C (fun w' => (w'.cell? ⟨w.heap.size + 1, 0, none⟩ = some (.string s) ∧ w'.cell? ⟨w.heap.size + 1, 12, none⟩ = some (.int .i64 2)) ∧ Below w.heap.size w w') (by kernel_rfl) (by kernel_rfl) (⟨⟨by simp [go_sem], by simp [go_sem]⟩, (below_alloc2 _ _ _).drew⟩) ?_
  repeat (first
    | (refine wpQ_skip (by rfl) ?_; simp only [Act.put, List.setIfInBounds_toArray, List.set_cons_zero, List.set_cons_succ])
    | (refine wpQ_value (v := ?_) (by rfl) ?_ ?_; rotate_left; (intro w hw; go_simp; done); simp only [Act.put, List.setIfInBounds_toArray, List.set_cons_zero, List.set_cons_succ])
    | (refine wpQ_value (v := ?_) (by rfl) ?_ ?_; rotate_left; (intro w hw; go_simp; with_reducible rfl); simp only [Act.put, List.setIfInBounds_toArray, List.set_cons_zero, List.set_cons_succ])
    | (refine wpQ_call (f := ?_) (args := ?_) (v := ?_) (by rfl) ?_ ?_ ?_; rotate_left 3; (intro w hw; go_simp; first | with_reducible rfl | (constructor; with_reducible rfl; with_reducible rfl)); (intro w hw; first | fail); simp only [Act.put, List.setIfInBounds_toArray, List.set_cons_zero, List.set_cons_succ]))
  refine wpQuiet_nil ?_
  intro w1 hS1
  go_wp2
  refine bodyPost_ret (results_tmp2 rfl _ _ _) rfl ⟨rfl, hS1.2⟩
theorem other_three (st : Int) (s : ByteArray) (w : World) :
    Calls Tryf.prog 5 #[.int .i64 st, .int .i64 3, .string s] w fun e w' => e = .returned (.tuple #[.int .i64 3, .string s]) ∧ Below w.heap.size w w' := by
  go_enter Tryf.func5, Tryf.ntmps5
  go_wp2_with fail
  go_at_call 11
  go_enter Tryf.func11, Tryf.ntmps11
  go_wp2
  refine bodyPost_ret (results_none rfl _ _ _) rfl ?_
  go_wp2
  refine wp_region_quiet_C (fun w' => (w'.cell? ⟨w.heap.size + 1, 0, none⟩ = some (.string s) ∧ w'.cell? ⟨w.heap.size + 1, 12, none⟩ = some (.int .i64 3)) ∧ Below w.heap.size w w') (by kernel_rfl) (by kernel_rfl) (⟨⟨by simp [go_sem], by simp [go_sem]⟩, (below_alloc2 _ _ _).drew⟩) ?_
  repeat (first
    | (refine wpQ_skip (by rfl) ?_; simp only [Act.put, List.setIfInBounds_toArray, List.set_cons_zero, List.set_cons_succ])
    | (refine wpQ_value (v := ?_) (by rfl) ?_ ?_; rotate_left; (intro w hw; go_simp; done); simp only [Act.put, List.setIfInBounds_toArray, List.set_cons_zero, List.set_cons_succ])
    | (refine wpQ_value (v := ?_) (by rfl) ?_ ?_; rotate_left; (intro w hw; go_simp; with_reducible rfl); simp only [Act.put, List.setIfInBounds_toArray, List.set_cons_zero, List.set_cons_succ])
    | (refine wpQ_call (f := ?_) (args := ?_) (v := ?_) (by rfl) ?_ ?_ ?_; rotate_left 3; (intro w hw; go_simp; first | with_reducible rfl | (constructor; with_reducible rfl; with_reducible rfl)); (intro w hw; first | fail); simp only [Act.put, List.setIfInBounds_toArray, List.set_cons_zero, List.set_cons_succ]))
  refine wpQuiet_nil ?_
  intro w1 hS1
  go_wp2
  refine bodyPost_ret (results_tmp2 rfl _ _ _) rfl ⟨rfl, hS1.2⟩
theorem other_four (st : Int) (s : ByteArray) (w : World) :
    Calls Tryf.prog 5 #[.int .i64 st, .int .i64 4, .string s] w fun e w' => e = .returned (.tuple #[.int .i64 4, .string s]) ∧ Below w.heap.size w w' := by
  go_enter Tryf.func5, Tryf.ntmps5
  go_wp2_with fail
  go_at_call 11
  go_enter Tryf.func11, Tryf.ntmps11
  go_wp2
  refine bodyPost_ret (results_none rfl _ _ _) rfl ?_
  go_wp2
  refine wp_region_quiet_C (fun w' => (w'.cell? ⟨w.heap.size + 1, 0, none⟩ = some (.string s) ∧ w'.cell? ⟨w.heap.size + 1, 12, none⟩ = some (.int .i64 4)) ∧ Below w.heap.size w w') (by kernel_rfl) (by kernel_rfl) (⟨⟨by simp [go_sem], by simp [go_sem]⟩, (below_alloc2 _ _ _).drew⟩) ?_
  repeat (first
    | (refine wpQ_skip (by rfl) ?_; simp only [Act.put, List.setIfInBounds_toArray, List.set_cons_zero, List.set_cons_succ])
    | (refine wpQ_value (v := ?_) (by rfl) ?_ ?_; rotate_left; (intro w hw; go_simp; done); simp only [Act.put, List.setIfInBounds_toArray, List.set_cons_zero, List.set_cons_succ])
    | (refine wpQ_value (v := ?_) (by rfl) ?_ ?_; rotate_left; (intro w hw; go_simp; with_reducible rfl); simp only [Act.put, List.setIfInBounds_toArray, List.set_cons_zero, List.set_cons_succ])
    | (refine wpQ_call (f := ?_) (args := ?_) (v := ?_) (by rfl) ?_ ?_ ?_; rotate_left 3; (intro w hw; go_simp; first | with_reducible rfl | (constructor; with_reducible rfl; with_reducible rfl)); (intro w hw; first | fail); simp only [Act.put, List.setIfInBounds_toArray, List.set_cons_zero, List.set_cons_succ]))
  refine wpQuiet_nil ?_
  intro w1 hS1
  go_wp2
  refine bodyPost_ret (results_tmp2 rfl _ _ _) rfl ⟨rfl, hS1.2⟩

theorem other_impl (st k : Int) (s : ByteArray) (w : World) (hk : 2 ≤ k) (hk4 : k ≤ 4) :
    Calls Tryf.prog 5 #[.int .i64 st, .int .i64 k, .string s] w fun e w' => e = .returned (.tuple #[.int .i64 k, .string s]) ∧ Below w.heap.size w w' := by
  obtain rfl | rfl | rfl : k = 2 ∨ k = 3 ∨ k = 4 := by omega
  · exact other_two st s w
  · exact other_three st s w
  · exact other_four st s w

theorem other_walk (st k : Int) (s : ByteArray) (W : World) :
    Calls Tryf.prog 3 #[.int .i64 st, .int .i64 k, .string s] W fun e W' => e = .returned (.bool true) ∧ Below W.heap.size W W' := by
  by_cases h0 : (s.size : Int) > 2147483647
  · go_enter Tryf.func3, Tryf.ntmps3
    go_wp2
    go_ret
    exact ⟨rfl, Below.refl _ _⟩
  by_cases h1 : st < 0
  · go_enter Tryf.func3, Tryf.ntmps3
    go_wp2
    go_ret
    exact ⟨rfl, Below.refl _ _⟩
  by_cases h2 : st > 1
  · go_enter Tryf.func3, Tryf.ntmps3
    go_wp2
    go_ret
    exact ⟨rfl, Below.refl _ _⟩
  by_cases h3 : k < 2
  · go_enter Tryf.func3, Tryf.ntmps3
    go_wp2
    go_ret
    exact ⟨rfl, Below.refl _ _⟩
  by_cases h4 : k > 4
  · go_enter Tryf.func3, Tryf.ntmps3
    go_wp2
    go_ret
    exact ⟨rfl, Below.refl _ _⟩
  by_cases h5 : (s.size : Int) > 400
  · go_enter Tryf.func3, Tryf.ntmps3
    go_wp2
    go_ret
    exact ⟨rfl, Below.refl _ _⟩
  go_enter Tryf.func3, Tryf.ntmps3
  go_wp2_with fail
  go_at_call 5
  refine (other_impl st k s _ (by omega) (by omega)).mono ?_
  rintro e w1 ⟨rfl, hb1⟩
  go_wp2
  go_ret
  exact ⟨rfl, hb1⟩

theorem otherMet (os : Os) (args : Array Value) : laidMetH Tryf.prog Rows.fnStyleOtherRow.laid ((World.laidAll Tryf.prog os Rows.fnStyleOtherRow.laid).forCall (fun _ _ => 0) ⟨#[], args, []⟩).memory := by
  rw [MakeChecks.laidMetH_plain _ _ _ (by kernel_rfl)]; exact laidMet_laidAll _ (by kernel_rfl) (by kernel_rfl)

theorem otherWitness {H : Type} {enc : TypeId × Value → H} (os : Os) (F : Stop.Interp) : ∃ (w : World) (tape : Tape) (i : Input), w.os = os ∧ (w.forCall tape i).Shaped Tryf.prog ∧ i.vars = [] ∧ Input.okWide Tryf.prog (w.forCall tape i) .any w.heap.size 3 i ∧
      (OpenSpec.ofChange Rows.fnStyleOtherSpec).preRow enc Tryf.prog Tryf.f3 [] false Rows.fnStyleOtherRow.laid (w.forCall tape i).memory i.args ∧ ({} : Assume).holds Tryf.prog (lone (Frame.enter Tryf.prog 3 i.args .normal) [] (w.forCall tape i)) ∧ F.answers tape :=
  ⟨World.laidAll Tryf.prog os Rows.fnStyleOtherRow.laid, F.over fun _ _ => 0, ⟨#[], #[.int .i64 0, .int .i64 2, .string ⟨#[]⟩], []⟩, World.laidAll_os _ _ _, World.shaped_of_ZipB (by kernel_rfl) (by kernel_rfl), rfl, (Input.okWide_of_okWideB (by kernel_rfl)).2, OpenSpec.preRow_of_B rfl 8 (by kernel_rfl) (by kernel_rfl) (otherMet os _), by
    simp only [Assume.holds]
    exact ⟨by simp, by simp, fun _ => F.over_modest Modest.zero, by simp, by simp⟩, F.over_answers _⟩

set_option maxRecDepth 100000 in
theorem other_lifted (os : Os) (started : os.Started) (H : Type) (enc : TypeId × Value → H) :
    ReturnsInTold none {} Tryf.checked os 3 .any Input.okWide ((OpenSpec.ofChange Rows.fnStyleOtherSpec).preRow enc Tryf.prog Tryf.f3 [] false Rows.fnStyleOtherRow.laid) (fun F => ((OpenSpec.ofChange Rows.fnStyleOtherSpec).at F).post enc Tryf.prog Tryf.f3 false true false false) (aloneAtReturn Tryf.prog) nothingAlways :=
  told_liftL (C := Tryf.checked) (tb := 4) 3 (by kernel_rfl) own started (by kernel_rfl) Tryf.func3
    (otherWitness os)
    laidOut rfl rfl Tryf.underlying4 (params_ok (by kernel_rfl)) rfl (fun ds h => by match ds, h with | [_, _, _], _ => rfl)
    (fun W base args ds ps hval0 hA0 _ _ _ => by
      have hA : DataW.TrodAll enc Tryf.prog W 0 (fun _ => true) true Tryf.f3.params.toList args.toList ds ps := hA0
      have hval : ∀ (j : Nat) t v, Tryf.f3.params[j]? = some t → args[j]? = some v → Value.okWide Tryf.prog W .any base t v := hval0
      rw [Tryf.params3] at hA hval
      obtain ⟨v0, v1, v2, d0, d1, d2, p0, p1, p2, rfl, rfl, rfl, h0, h1, h2⟩ := trodAll_three hA
      obtain ⟨n, rfl, rfl, rfl, wn⟩ := open_int Tryf.underlying3 (hval 0 3 v0 rfl rfl) h0
      obtain ⟨k, rfl, rfl, rfl, wk⟩ := open_int Tryf.underlying3 (hval 1 3 v1 rfl rfl) h1
      obtain ⟨s, rfl, rfl, rfl, ws⟩ := Go.ChangeMaps.open_string Tryf.underlying9 (hval 2 9 v2 rfl rfl) h2
      exact other_walk n k s W)

theorem fnStyleOther_holds : Rows.FnStyleOtherToldSaid :=
  Claim7.holds_of_told_tied_any_at .later 3 Tryf.f3 "fmt.Sprintf" [] [] _ _ _ _ _ (by kernel_rfl) rfl rfl rfl laidOut (by kernel_rfl) rfl ⟨rfl, rfl, rfl, rfl, rfl, rfl, rfl⟩ rfl rfl (by kernel_rfl) (by kernel_rfl) Tryf.func3 (by kernel_rfl)
    (of_decide_eq_true (by kernel_rfl)) (by unfold Func.isWrapper; first | (rw [if_pos (by decide +kernel)]; kernel_rfl) | (rw [if_neg (by decide +kernel)]; exact ⟨rfl, rfl⟩)) progStops.symm rfl progStopKnobs.symm (by kernel_rfl)
    (by kernel_rfl) (by kernel_rfl) (by kernel_rfl) (by kernel_rfl) (by kernel_rfl) (by kernel_rfl) (by kernel_rfl) (by kernel_rfl) (by kernel_rfl) rfl (by kernel_rfl) rfl rfl
    rfl rfl
    rfl (by kernel_rfl) (by kernel_rfl) (by kernel_rfl) (by decide) (by kernel_rfl) fnStyleOther_row_tie
    (OpenClaim.moreEntering_of (by kernel_rfl) (by kernel_rfl) (by kernel_rfl) (by kernel_rfl) (by kernel_rfl) (by kernel_rfl) (by kernel_rfl) (by kernel_rfl) (by kernel_rfl) (by kernel_rfl))
    ⟨_, WideRow.started_initial, progQuiet _⟩
    (fun os started _ H enc _ => other_lifted os started H enc)
#print axioms fnStyleOther_holds
end Go.Proofs.YthdhmmbjgnpkbaaFmt
