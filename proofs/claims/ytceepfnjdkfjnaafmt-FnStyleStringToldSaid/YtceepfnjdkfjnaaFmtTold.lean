/-
  What every told law of this seat shares: a law that returns true and leaves all old memory as it was holds as its card says. No call of fmt is reached.
-/
import Derived.Test.YtceepfnjdkfjnaaFmtKit
import Derived.Test.YtceepfnjdkfjnaaFmtCards
import Derived.Stop.JoinedTold
import Derived.SevenToldRow
namespace Go.Proofs.YtceepfnjdkfjnaaFmt
open Go.ChangeShapes Go.WideShapes Go.ChangeAt Go.RowKit Go.Joins Go.Extern.Stop Go.Stop Go.Extern

theorem progStops : Tryf.pinned.checked.prog.stops = ["fmt.Sprintf"] := by kernel_rfl
theorem progStopKnobs : Tryf.pinned.checked.prog.stopKnobs = [] := by kernel_rfl
theorem progQuiet (os : Os) : Stop.quiet Tryf.pinned.checked.prog os := by
  intro k hk
  rw [progStopKnobs] at hk
  cases hk

theorem told_lift {H : Type} {enc : TypeId × Value → H} {C : Checked} {os : Os} {f : FuncId} {fn : Func} {s : ChangeSpec} {tb : TypeId} (n : Nat)
    (enter : C.prog.mayEnter = true) (own : ownKnob C.prog.godebug = none) (started : os.Started) (noInit : C.prog.inits.idxOf? f = none) (hfn : C.prog.funcs[f]? = some fn)
    (witness : ∀ F : Stop.Interp, ∃ (w : World) (tape : Tape) (i : Input), w.os = os ∧ (w.forCall tape i).Shaped C.prog ∧ i.vars = [] ∧ Input.okWide C.prog (w.forCall tape i) .any w.heap.size f i ∧
      (OpenSpec.ofChange s).preRow enc C.prog fn [] false [] (w.forCall tape i).memory i.args ∧ ({} : Assume).holds C.prog (lone (Frame.enter C.prog f i.args .normal) [] (w.forCall tape i)) ∧ F.answers tape)
    (hl : laidOutB C.prog = true) (hvars : s.vars = []) (hrt : fn.resultTypes = #[tb]) (hb : C.prog.underlying tb = some .bool)
    (hr : ∀ t ∈ fn.params.toList, C.prog.readableRec t = true ∧ t < C.prog.types.size)
    (hn : fn.params.toList.length = n)
    (hs : ∀ ds : List (DataW H), ds.length = n → s.fn H ds = { results := [.lit (.bool true)], args := ds })
    (walk : ∀ (W : World) (base : Nat) (args : Array Value) (ds : List (DataW H)) (ps : List MemPlace),
      (∀ (j : Nat) t v, fn.params[j]? = some t → args[j]? = some v → Value.okWide C.prog W .any base t v) →
      DataW.TrodAll enc C.prog W 0 (fun _ => true) true fn.params.toList args.toList ds ps →
      (∀ x ∈ ps, x.block < W.heap.size) →
      (DataW.weightsEach C.prog fn.params.toList ds).all (· ≤ reachBytes) = true →
      Calls C.prog f args W fun e W' => e = .returned (.bool true) ∧ Below W.heap.size W W') :
    ReturnsInTold none {} C os f .any Input.okWide ((OpenSpec.ofChange s).preRow enc C.prog fn [] false []) (fun F => ((OpenSpec.ofChange s).at F).post enc C.prog fn false true false false) (aloneAtReturn C.prog) nothingAlways := by
  refine returnsInTold_of_row enter own started noInit hfn witness ?_
  intro F W base args ds gs before _ hF hval hW _ _ hsz _ _
  have hW' : DataW.Whole enc C.prog fn.params.toList s.vars false W args.toList ds gs before := hW
  obtain ⟨p, hA, rfl, rfl⟩ : ∃ p, DataW.TrodAll enc C.prog W 0 (fun _ => true) true fn.params.toList args.toList ds p ∧ gs = [] ∧ before = p := by
    obtain ⟨p, q, hA, hV, e, hfz, hnd⟩ := hW'
    rw [hvars] at hV
    obtain ⟨e1, rfl⟩ := trodVars_none hV
    exact ⟨p, hA, e1, by simpa using e⟩
  have hsz' : (DataW.weightsEach C.prog fn.params.toList ds).all (· ≤ reachBytes) = true := by
    have e : (OpenSpec.ofChange s).bare.plain.varTypes C.prog = [] := by
      show s.vars.filterMap _ = []
      rw [hvars]; rfl
    rw [e] at hsz
    simpa using hsz
  refine (walk W base args ds _ hval hA (fun x hx => hW'.lt x hx) hsz').mono fun e W' ⟨he, hg⟩ => ?_
  exact ⟨_, he, law_post hl hvars hrt hb hr (hs ds (by rw [← hn]; exact trodAll_length hA)) hW' hg⟩

end Go.Proofs.YtceepfnjdkfjnaaFmt
