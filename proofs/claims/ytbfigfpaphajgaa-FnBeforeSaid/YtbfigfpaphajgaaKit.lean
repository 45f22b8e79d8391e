/-
  What every law of this seat shares: a law that returns true and leaves all old memory as it was, in every world that its arguments read in, holds as its row says. Conditions: none beyond those that the theorems name.
-/
import Derived.Test.YtbfigfpaphajgaaRows
import Derived.WalkKit
import Derived.ProofKit
import Derived.SizedLaws
import Derived.OpenShut
import Derived.Lib.SmallJoins
import Derived.Outline
import Derived.BigQuiet
import Derived.Deep.QuietTactic
import Derived.WalkSpells
import Derived.WalkLawsBesides
import Derived.Lib.Hide
import Derived.Deep.RegionHeld3
namespace Go.Proofs.Ytbfigfpaphajgaa
open Go.ChangeShapes Go.WideShapes Go.ChangeAt Go.RowKit Go.Joins

theorem own : ownKnob Try.prog.godebug = none := by kernel_rfl
theorem laidOut : laidOutB Try.prog = true := by kernel_rfl

section
variable {H : Type} {enc : TypeId × Value → H} {P : Program}

theorem trodAll_below (hl : laidOutB P = true) {W W' : World} (hb : Below W.heap.size W W') : ∀ {ts : List TypeId} {vs : List Value} {ds : List (DataW H)} {ps : List MemPlace},
    (∀ t ∈ ts, P.readableRec t = true ∧ t < P.types.size) → DataW.TrodAll enc P W 0 (fun _ => true) true ts vs ds ps → (∀ x ∈ ps, x.block < W.heap.size) →
    DataW.TrodAll enc P W' 0 (fun b => decide (b < W.heap.size)) true ts vs ds ps := by
  intro ts
  induction ts with
  | nil =>
    intro vs ds ps _ h _
    cases vs with
    | nil => cases ds with
      | nil => exact h
      | cons d ds => exact absurd h (by intro k; cases k)
    | cons v vs => exact absurd h (by intro k; cases k)
  | cons t ts ih =>
    intro vs ds ps hr h hlt
    cases vs with
    | nil => exact absurd h (by intro k; cases k)
    | cons v vs => cases ds with
      | nil => exact absurd h (by intro k; cases k)
      | cons d ds =>
        obtain ⟨p, q, hd, hrest, rfl⟩ := h
        exact ⟨p, q, Below.trod hl (hr t (by simp)).1 (hr t (by simp)).2 hd hb (fun x hx => hlt x (by simp [hx])),
          ih (fun t' ht' => hr t' (by simp [ht'])) hrest (fun x hx => hlt x (by simp [hx])), rfl⟩

theorem law_post {fn : Func} {s : ChangeSpec} {W W' : World} {args : Array Value} {ds gs : List (DataW H)} {before : List MemPlace} {tb : TypeId}
    (hl : laidOutB P = true) (hvars : s.vars = []) (hrt : fn.resultTypes = #[tb]) (hb : P.underlying tb = some .bool)
    (hr : ∀ t ∈ fn.params.toList, P.readableRec t = true ∧ t < P.types.size)
    (hs : s.fn H ds = { results := [.lit (.bool true)], args := ds })
    (hW : DataW.Whole enc P fn.params.toList s.vars false W args.toList ds gs before) (hbel : Below W.heap.size W W') :
    s.post enc P fn false true false false W args (.bool true) W' := by
  have hW' := hW
  obtain ⟨p, q, hA, hV, rfl, hfz, hnd⟩ := hW
  rw [hvars] at hV
  obtain ⟨rfl, rfl⟩ := trodVars_none hV
  simp only [List.append_nil] at hW'
  refine ⟨ds, [], _, [], p, [], hW', ?_, ?_, ?_, hbel.frame _, fun h => by cases h⟩
  · rw [List.append_nil, hs, hrt]
    exact trodAll_mk1 (shut_bool hb true)
  · rw [List.append_nil, hs]
    exact trodAll_below hl hbel hr hA (fun x hx => by have := hW'.lt x hx; exact this)
  · rw [List.append_nil, hs, hvars]
    rfl

theorem law_lift {C : Checked} {os : Os} {f : FuncId} {fn : Func} {s : ChangeSpec} {tb : TypeId} (n : Nat)
    (own : ownKnob C.prog.godebug = none) (started : os.Started) (noInit : C.prog.inits.idxOf? f = none) (hfn : C.prog.funcs[f]? = some fn)
    (witness : ∃ (w : World) (tape : Tape) (i : Input), w.os = os ∧ (w.forCall tape i).Shaped C.prog ∧ i.vars = [] ∧ Input.okWide C.prog (w.forCall tape i) .any w.heap.size f i ∧
      s.pre6 enc C.prog fn [] false (w.forCall tape i).memory i.args ∧ ({} : Assume).holds C.prog (lone (Frame.enter C.prog f i.args .normal) [] (w.forCall tape i)))
    (hl : laidOutB C.prog = true) (hvars : s.vars = []) (hrt : fn.resultTypes = #[tb]) (hb : C.prog.underlying tb = some .bool)
    (hr : ∀ t ∈ fn.params.toList, C.prog.readableRec t = true ∧ t < C.prog.types.size)
    (hn : fn.params.toList.length = n)
    (hs : ∀ ds : List (DataW H), ds.length = n → s.fn H ds = { results := [.lit (.bool true)], args := ds })
    (walk : ∀ (W : World) (base : Nat) (args : Array Value) (ds : List (DataW H)) (ps : List MemPlace),
      (∀ (j : Nat) t v, fn.params[j]? = some t → args[j]? = some v → Value.okWide C.prog W .any base t v) →
      DataW.TrodAll enc C.prog W 0 (fun _ => true) true fn.params.toList args.toList ds ps →
      (∀ x ∈ ps, x.block < W.heap.size) →
      (DataW.weightsEach C.prog fn.params.toList ds).all (· ≤ reachBytes) = true →
      Calls C.prog f args W fun e W' => e = .returned (.bool true) ∧ Below W.heap.size W W') :
    ReturnsInHanded {} C os f .any (s.pre6 enc C.prog fn [] false) (s.post enc C.prog fn false true false false) := by
  refine returnsInHanded_of_change_sized own started noInit hfn witness ?_
  intro W base args ds gs before hval hW _ hsz _
  have hW' := hW
  obtain ⟨p, q, hA, hV, rfl, hfz, hnd⟩ := hW
  rw [hvars] at hV
  obtain ⟨rfl, rfl⟩ := trodVars_none hV
  have hlen : ds.length = n := by
    rw [← hn]
    have key : ∀ (ts : List TypeId) (vs : List Value) (ds : List (DataW H)) (ps : List MemPlace), DataW.TrodAll enc C.prog W 0 (fun _ => true) true ts vs ds ps → ds.length = ts.length := by
      intro ts
      induction ts with
      | nil =>
        intro vs ds ps h
        cases vs with
        | nil => cases ds with
          | nil => rfl
          | cons d ds => exact absurd h (by intro k; cases k)
        | cons v vs => exact absurd h (by intro k; cases k)
      | cons t ts ih =>
        intro vs ds ps h
        cases vs with
        | nil => exact absurd h (by intro k; cases k)
        | cons v vs => cases ds with
          | nil => exact absurd h (by intro k; cases k)
          | cons d ds =>
            obtain ⟨p, q, hd, hrest, rfl⟩ := h
            simp [ih _ _ _ hrest]
    exact key _ _ _ _ hA
  have hsz' : (DataW.weightsEach C.prog fn.params.toList ds).all (· ≤ reachBytes) = true := by
    have e : s.plain.varTypes C.prog = [] := by simp [ChangeSpec.plain, DataSpec.varTypes, hvars]
    rw [e] at hsz
    simpa using hsz
  have hlt : ∀ x ∈ p, x.block < W.heap.size := fun x hx => by
    have := hW'.lt x (by simpa using hx)
    exact this
  refine (walk W base args ds p hval hA hlt hsz').mono fun e W' ⟨he, hg⟩ => ?_
  exact ⟨_, he, law_post hl hvars hrt hb hr (hs ds hlen) hW' hg⟩
end

/-! ### Regions that draw their order: what stays while calls make new memory -/
/-- Below the size of W1 all is as in W1; old cells of the world W1 read in w' as they did. -/
abbrev Stay (W1 w' : World) : Prop := Below W1.heap.size W1 w' ∧ ∀ b o, b < W1.heap.size → w'.cell? ⟨b, o, none⟩ = W1.cell? ⟨b, o, none⟩
theorem stay_of {W1 w' : World} (h : Below W1.heap.size W1 w') : Stay W1 w' := ⟨h, fun b o hb => h.cell (p := ⟨b, o, none⟩) hb⟩
theorem stay_start (W1 : World) : Stay W1 W1.drew := stay_of (Below.refl W1.heap.size W1).drew
theorem stay_step {W1 w w' : World} (h : Stay W1 w) (hb : Below w.heap.size w w') : Stay W1 w' := stay_of (h.1.trans (hb.mono h.1.size))

/-- The facts that each law row of this seat asks of its parameters' types. -/
theorem params_ok {P : Program} {fn : Func} (h : (fn.params.toList.all fun t => P.readableRec t && decide (t < P.types.size)) = true) : ∀ t ∈ fn.params.toList, P.readableRec t = true ∧ t < P.types.size := by
  intro t ht
  have := List.all_eq_true.1 h t ht
  simpa using this

end Go.Proofs.Ytbfigfpaphajgaa
