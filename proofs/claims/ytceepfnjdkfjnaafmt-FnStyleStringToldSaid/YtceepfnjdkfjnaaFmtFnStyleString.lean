/-
  FnStyleString: a string between quotes says what it said, and is quoted as the law tells. Conditions: none beyond the card's.
-/
import Derived.Test.YtceepfnjdkfjnaaFmtFnStyleStringWalk
import Derived.Test.YtceepfnjdkfjnaaFmtTold
import Derived.Test.YtceepfnjdkfjnaaFmtCards
import Derived.Test.YtceepfnjdkfjnaaFmtTie
import Derived.Stop.JoinedTold
import Derived.SevenToldRow
import Derived.SevenTiedAt
import Derived.LaidMore
import Derived.Lay
import Derived.MakeChecks
import Derived.ChangeVars
import Derived.ChangeMaps5
import Derived.Lib.LaidU8T
namespace Go.Proofs.YtceepfnjdkfjnaaFmt
open Go.ChangeShapes Go.WideShapes Go.ChangeAt Go.RowKit Go.Joins Go.Extern.Stop Go.Stop Go.Extern

/-- A told law that lists data and no variable, and leans on what is told. -/
theorem told_liftF {H : Type} {enc : TypeId × Value → H} {C : Checked} {os : Os} {f : FuncId} {fn : Func} {s : ChangeSpec} {tb : TypeId} {laid : List (String × DataW Unit)} (n : Nat)
    (enter : C.prog.mayEnter = true) (own : ownKnob C.prog.godebug = none) (started : os.Started) (noInit : C.prog.inits.idxOf? f = none) (hfn : C.prog.funcs[f]? = some fn)
    (witness : ∀ F : Stop.Interp, ∃ (w : World) (tape : Tape) (i : Input), w.os = os ∧ (w.forCall tape i).Shaped C.prog ∧ i.vars = [] ∧ Input.okWide C.prog (w.forCall tape i) .any w.heap.size f i ∧
      (OpenSpec.ofChange s).preRow enc C.prog fn [] false laid (w.forCall tape i).memory i.args ∧ ({} : Assume).holds C.prog (lone (Frame.enter C.prog f i.args .normal) [] (w.forCall tape i)) ∧ F.answers tape)
    (hl : laidOutB C.prog = true) (hvars : s.vars = []) (hrt : fn.resultTypes = #[tb]) (hb : C.prog.underlying tb = some .bool)
    (hr : ∀ t ∈ fn.params.toList, C.prog.readableRec t = true ∧ t < C.prog.types.size)
    (hn : fn.params.toList.length = n)
    (hs : ∀ ds : List (DataW H), ds.length = n → s.fn H ds = { results := [.lit (.bool true)], args := ds })
    (walk : ∀ (F : Stop.Interp) (W : World) (base : Nat) (args : Array Value) (ds : List (DataW H)) (ps : List MemPlace),
      (∀ (j : Nat) t v, fn.params[j]? = some t → args[j]? = some v → Value.okWide C.prog W .any base t v) →
      DataW.TrodAll enc C.prog W 0 (fun _ => true) true fn.params.toList args.toList ds ps →
      (∀ x ∈ ps, x.block < W.heap.size) →
      (DataW.weightsEach C.prog fn.params.toList ds).all (· ≤ reachBytes) = true →
      laidMetH C.prog laid W → F.told.answers W.tape →
      Calls C.prog f args W fun e W' => e = .returned (.bool true) ∧ Below W.heap.size W W') :
    ReturnsInTold none {} C os f .any Input.okWide ((OpenSpec.ofChange s).preRow enc C.prog fn [] false laid) (fun F => ((OpenSpec.ofChange s).at F).post enc C.prog fn false true false false) (aloneAtReturn C.prog) nothingAlways := by
  refine returnsInTold_of_row enter own started noInit hfn witness ?_
  intro F W base args ds gs before _ hF hval hW _ _ hsz hL _
  have hW' : DataW.Whole enc C.prog fn.params.toList s.vars false W args.toList ds gs before := hW
  obtain ⟨p, hA, rfl, rfl⟩ : ∃ p, DataW.TrodAll enc C.prog W 0 (fun _ => true) true fn.params.toList args.toList ds p ∧ gs = [] ∧ before = p := by
    obtain ⟨p, q, hA, hV, e, hfz, hnd⟩ := hW'
    rw [hvars] at hV
    obtain ⟨e1, rfl⟩ := trodVars_none hV
    exact ⟨p, hA, e1, by simpa using e⟩
  have hsz' : (DataW.weightsEach C.prog fn.params.toList ds).all (· ≤ reachBytes) = true := by
    have e : (OpenSpec.ofChange s).bare.plain.varTypes C.prog = [] := by
      show s.vars.filterMap _ = []
      rw [hvars]; rfl
    rw [e] at hsz
    simpa using hsz
  refine (walk F W base args ds _ hval hA (fun x hx => hW'.lt x hx) hsz' hL hF).mono fun e W' ⟨he, hg⟩ => ?_
  exact ⟨_, he, law_post hl hvars hrt hb hr (hs ds (by rw [← hn]; exact trodAll_length hA)) hW' hg⟩

theorem strLaid {W : World} (h : laidMetH Tryf.prog Rows.fnStyleStringRow.laid W) : laidMet Tryf.prog Rows.fnStyleStringRow.laid W := by
  rw [← MakeChecks.laidMetH_plain _ _ _ (by kernel_rfl)]; exact h
theorem strTabs {W : World} (h : laidMetH Tryf.prog Rows.fnStyleStringRow.laid W) : Lib.Utf8Tabs 0 1 W := by
  have e1 : Rows.laid_unicode_utf8_first = Lib.firstData := by kernel_rfl
  have e2 : Rows.laid_unicode_utf8_acceptRanges = Lib.acceptData := by kernel_rfl
  have h1 : Lib.VarReads Tryf.prog W "unicode/utf8.first" Rows.laid_unicode_utf8_first := Lib.laidMet.reads (strLaid h) (.tail _ (.tail _ (.tail _ (.head _))))
  have h2 : Lib.VarReads Tryf.prog W "unicode/utf8.acceptRanges" Rows.laid_unicode_utf8_acceptRanges := Lib.laidMet.reads (strLaid h) (.head _)
  rw [e1] at h1
  rw [e2] at h2
  exact utf8Tabs_of_readsT (ρ := Tryf.lays197_ren) { Tryf.lays197 with } ⟨by kernel_rfl, by kernel_rfl, by kernel_rfl, by kernel_rfl, by kernel_rfl, by kernel_rfl, by kernel_rfl⟩ h1 h2
theorem strErr {W : World} (h : laidMetH Tryf.prog Rows.fnStyleStringRow.laid W) : ∃ ev, W.cell? ⟨3, 0, none⟩ = some ev := by
  have h1 : Lib.VarReads Tryf.prog W "encoding/hex.ErrLength" Rows.laid_encoding_hex_ErrLength := Lib.laidMet.reads (strLaid h) (.tail _ (.tail _ (.head _)))
  obtain ⟨g, t, cs, fuel, p, hg, hty, hvar, hd⟩ := h1
  have eg : Tryf.prog.globalNamed "encoding/hex.ErrLength" = some 3 := by kernel_rfl
  obtain rfl := Option.some.inj (eg.symm.trans hg)
  have et : (Tryf.prog.globals[3]?).map (·.type) = some 85 := by kernel_rfl
  obtain rfl := Option.some.inj (et.symm.trans hty)
  obtain ⟨l⟩ := cs
  cases l with
  | nil =>
    cases fuel with
    | zero => simp [DataW.trod] at hd
    | succ n => simp [DataW.trod, Tryf.underlying85] at hd
  | cons v l => exact ⟨v, by rw [World.var?_cell hg hvar 0]; rfl⟩

theorem strMet (os : Os) (args : Array Value) : laidMetH Tryf.prog Rows.fnStyleStringRow.laid ((World.laidAll Tryf.prog os Rows.fnStyleStringRow.laid).forCall (fun _ _ => 0) ⟨#[], args, []⟩).memory := by
  rw [MakeChecks.laidMetH_plain _ _ _ (by kernel_rfl)]; exact laidMet_laidAll _ (by kernel_rfl) (by kernel_rfl)

theorem strWitness {H : Type} {enc : TypeId × Value → H} (os : Os) (F : Stop.Interp) : ∃ (w : World) (tape : Tape) (i : Input), w.os = os ∧ (w.forCall tape i).Shaped Tryf.prog ∧ i.vars = [] ∧ Input.okWide Tryf.prog (w.forCall tape i) .any w.heap.size 3 i ∧
      (OpenSpec.ofChange Rows.fnStyleStringSpec).preRow enc Tryf.prog Tryf.f3 [] false Rows.fnStyleStringRow.laid (w.forCall tape i).memory i.args ∧ ({} : Assume).holds Tryf.prog (lone (Frame.enter Tryf.prog 3 i.args .normal) [] (w.forCall tape i)) ∧ F.answers tape :=
  ⟨World.laidAll Tryf.prog os Rows.fnStyleStringRow.laid, F.over fun _ _ => 0, ⟨#[], #[.int .i64 0, .int .i64 0, .string ⟨#[]⟩], []⟩, World.laidAll_os _ _ _, World.shaped_of_ZipB (by kernel_rfl) (by kernel_rfl), rfl, (Input.okWide_of_okWideB (by kernel_rfl)).2, OpenSpec.preRow_of_B rfl 8 (by kernel_rfl) (by kernel_rfl) (strMet os _), by
    simp only [Assume.holds]
    exact ⟨by simp, by simp, fun _ => F.over_modest Modest.zero, by simp, by simp⟩, F.over_answers _⟩

set_option maxRecDepth 100000 in
theorem str_lifted (os : Os) (started : os.Started) (H : Type) (enc : TypeId × Value → H) :
    ReturnsInTold none {} Tryf.checked os 3 .any Input.okWide ((OpenSpec.ofChange Rows.fnStyleStringSpec).preRow enc Tryf.prog Tryf.f3 [] false Rows.fnStyleStringRow.laid) (fun F => ((OpenSpec.ofChange Rows.fnStyleStringSpec).at F).post enc Tryf.prog Tryf.f3 false true false false) (aloneAtReturn Tryf.prog) nothingAlways :=
  told_liftF (C := Tryf.checked) (tb := 4) 3 (by kernel_rfl) own started (by kernel_rfl) Tryf.func3
    (strWitness os)
    laidOut rfl rfl Tryf.underlying4 (params_ok (by kernel_rfl)) rfl (fun ds h => by match ds, h with | [_, _, _], _ => rfl)
    (fun F W base args ds ps hval0 hA0 _ _ hL hF => by
      have hA : DataW.TrodAll enc Tryf.prog W 0 (fun _ => true) true Tryf.f3.params.toList args.toList ds ps := hA0
      have hval : ∀ (j : Nat) t v, Tryf.f3.params[j]? = some t → args[j]? = some v → Value.okWide Tryf.prog W .any base t v := hval0
      rw [Tryf.params3] at hA hval
      obtain ⟨v0, v1, v2, d0, d1, d2, p0, p1, p2, rfl, rfl, rfl, h0, h1, h2⟩ := trodAll_three hA
      obtain ⟨n, rfl, rfl, rfl, wn⟩ := open_int Tryf.underlying3 (hval 0 3 v0 rfl rfl) h0
      obtain ⟨k, rfl, rfl, rfl, wk⟩ := open_int Tryf.underlying3 (hval 1 3 v1 rfl rfl) h1
      obtain ⟨s, rfl, rfl, rfl, ws⟩ := Go.ChangeMaps.open_string Tryf.underlying9 (hval 2 9 v2 rfl rfl) h2
      exact styleLaw_walk F n k s W hF (strTabs hL) (strErr hL))

theorem fnStyleString_holds : Rows.FnStyleStringToldSaid :=
  Claim7.holds_of_told_tied_any_at .later 3 Tryf.f3 "fmt.Sprintf" [] [] _ _ _ _ _ (by kernel_rfl) rfl rfl rfl laidOut (by kernel_rfl) rfl ⟨rfl, rfl, rfl, rfl, rfl, rfl, rfl⟩ rfl rfl (by kernel_rfl) (by kernel_rfl) Tryf.func3 (by kernel_rfl)
    (of_decide_eq_true (by kernel_rfl)) (by unfold Func.isWrapper; first | (rw [if_pos (by decide +kernel)]; kernel_rfl) | (rw [if_neg (by decide +kernel)]; exact ⟨rfl, rfl⟩)) progStops.symm rfl progStopKnobs.symm (by kernel_rfl)
    (by kernel_rfl) (by kernel_rfl) (by kernel_rfl) (by kernel_rfl) (by kernel_rfl) (by kernel_rfl) (by kernel_rfl) (by kernel_rfl) (by kernel_rfl) rfl (by kernel_rfl) rfl rfl
    rfl rfl
    rfl (by kernel_rfl) (by kernel_rfl) (by kernel_rfl) (by decide) (by kernel_rfl) fnStyleString_row_tie
    (OpenClaim.moreEntering_of (by kernel_rfl) (by kernel_rfl) (by kernel_rfl) (by kernel_rfl) (by kernel_rfl) (by kernel_rfl) (by kernel_rfl) (by kernel_rfl) (by kernel_rfl) (by kernel_rfl))
    ⟨_, WideRow.started_initial, progQuiet _⟩
    (fun os started _ H enc _ => str_lifted os started H enc)
#print axioms fnStyleString_holds
end Go.Proofs.YtceepfnjdkfjnaaFmt
