/-
  FnOpText, FnSignText: operators are written as the description says. The two tables of texts hold what the program's text lays in them (tied); no call of fmt is reached.
-/
import Derived.Test.YtbfigfpaphajgaaFmtKit
import Derived.Test.YtbfigfpaphajgaaFmtCards
import Derived.Test.YtbfigfpaphajgaaFmtTie
import Derived.Stop.JoinedTold
import Derived.SevenToldRow
import Derived.SevenTiedAt
import Derived.LaidMore
import Derived.Deep.DeepWitnessRef
import Derived.MakeChecks
import Derived.ChangeVars
namespace Go.Proofs.YtbfigfpaphajgaaFmt
open Go.ChangeShapes Go.WideShapes Go.ChangeAt Go.RowKit Go.Joins Go.Extern.Stop Go.Stop Go.Extern

theorem progStops : Tryf.pinned.checked.prog.stops = ["fmt.Sprintf, its operands' methods called"] := by kernel_rfl
theorem progStopKnobs : Tryf.pinned.checked.prog.stopKnobs = [] := by kernel_rfl
theorem progQuiet (os : Os) : Stop.quiet Tryf.pinned.checked.prog os := by
  intro k hk
  rw [progStopKnobs] at hk
  cases hk

section
variable {H : Type} {enc : TypeId × Value → H} {P : Program}
/-- A named variable reads behind the call as it did. -/
theorem trodVars_below1 (hl : laidOutB P = true) {vn : String} {tv : TypeId} (hr : P.readableRec tv = true) (hrow : tv < P.types.size) (hty : ∀ g, P.globalNamed vn = some g → (P.globals[g]?).map (·.type) = some tv) {W W' : World} {gs : List (DataW H)} {q : List MemPlace}
    (h : DataW.TrodVars enc P W (fun _ => true) [vn] gs q) (hb : Below W.heap.size W W') (hlt : ∀ x ∈ q, x.block < W.heap.size) :
    DataW.TrodVars enc P W' (fun b => decide (b < W.heap.size)) [vn] gs q := by
  obtain ⟨g, t, cs, fuel, d, p, rfl, hg, ht, hv, hd, rfl⟩ := trodVars_one h
  have e : t = tv := Option.some.inj (ht.symm.trans (hty g hg))
  subst e
  refine ⟨g, t, cs, fuel, p, [], hg, ht, var_stays hg hv hb (Nat.le_refl _), ?_, rfl, by simp⟩
  exact DataW.trod_stays (kids_book hl hr) (book_sized hr) (fun h => by cases h) ⟨hrow, book_self t⟩ hd (fun x hx => hb.same (hlt x (by simp [hx]))) (fun x hx => by simpa using hlt x (by simp [hx]))

theorem told_lift1 {C : Checked} {os : Os} {f : FuncId} {fn : Func} {s : ChangeSpec} {tb tv : TypeId} {vn : String} {laid : List (String × DataW Unit)} (n : Nat)
    (enter : C.prog.mayEnter = true) (own : ownKnob C.prog.godebug = none) (started : os.Started) (noInit : C.prog.inits.idxOf? f = none) (hfn : C.prog.funcs[f]? = some fn)
    (witness : ∀ F : Stop.Interp, ∃ (w : World) (tape : Tape) (i : Input), w.os = os ∧ (w.forCall tape i).Shaped C.prog ∧ i.vars = [] ∧ Input.okWide C.prog (w.forCall tape i) .any w.heap.size f i ∧
      (OpenSpec.ofChange s).preRow enc C.prog fn [] false laid (w.forCall tape i).memory i.args ∧ ({} : Assume).holds C.prog (lone (Frame.enter C.prog f i.args .normal) [] (w.forCall tape i)) ∧ F.answers tape)
    (hl : laidOutB C.prog = true) (hvars : s.vars = [vn]) (hrt : fn.resultTypes = #[tb]) (hb : C.prog.underlying tb = some .bool)
    (hr : ∀ t ∈ fn.params.toList, C.prog.readableRec t = true ∧ t < C.prog.types.size) (hrv : C.prog.readableRec tv = true) (hrowv : tv < C.prog.types.size)
    (hty : ∀ g, C.prog.globalNamed vn = some g → (C.prog.globals[g]?).map (·.type) = some tv)
    (hn : fn.params.toList.length = n)
    (hs : ∀ (ds : List (DataW H)) (g : DataW H), ds.length = n → s.fn H (ds ++ [g]) = { results := [.lit (.bool true)], args := ds, vars := [g] })
    (walk : ∀ (W : World) (base : Nat) (args : Array Value) (ds : List (DataW H)) (ps : List MemPlace),
      (∀ (j : Nat) t v, fn.params[j]? = some t → args[j]? = some v → Value.okWide C.prog W .any base t v) →
      DataW.TrodAll enc C.prog W 0 (fun _ => true) true fn.params.toList args.toList ds ps →
      laidMetH C.prog laid W →
      Calls C.prog f args W fun e W' => e = .returned (.bool true) ∧ Below W.heap.size W W') :
    ReturnsInTold none {} C os f .any Input.okWide ((OpenSpec.ofChange s).preRow enc C.prog fn [] false laid) (fun F => ((OpenSpec.ofChange s).at F).post enc C.prog fn false true false false) (aloneAtReturn C.prog) nothingAlways := by
  refine returnsInTold_of_row enter own started noInit hfn witness ?_
  intro F W base args ds gs before _ hF hval hW _ _ _ hL _
  have hW' : DataW.Whole enc C.prog fn.params.toList s.vars false W args.toList ds gs before := hW
  have hW2 := hW'
  obtain ⟨p, q, hA, hV, rfl, hfz, hnd⟩ := hW2
  refine (walk W base args ds p hval hA hL).mono fun e W' ⟨he, hg⟩ => ?_
  have hlt := hW'.lt
  rw [hvars] at hV
  obtain ⟨g, t, cs, fuel, d, p', rfl, _, _, _, _, _⟩ := trodVars_one hV
  have hlen : ds.length = n := by rw [← hn]; exact trodAll_length hA
  refine ⟨_, he, ?_⟩
  show s.post enc C.prog fn false true false false W args (.bool true) W'
  refine ⟨ds, [d], _, [], p, q, hW', ?_, ?_, ?_, hg.frame _, fun h => by cases h⟩
  · rw [hs ds d hlen, hrt]
    exact trodAll_mk1 (shut_bool hb true)
  · rw [hs ds d hlen]
    exact trodAll_below hl hg hr hA (fun x hx => hlt x (by simp [hx]))
  · rw [hs ds d hlen, hvars]
    exact trodVars_below1 hl hrv hrowv hty hV hg (fun x hx => hlt x (by simp [hx]))

/-- A listed table of texts: where it lies, and what its cells hold. -/
theorem open_tab {vn : String} {gn tv te : Nat} {ss : List (List UInt8)} (hl : ∀ W : World, laidMetH P [(vn, .slice (ss.map fun b => .lit (.string b)) [])] W = laidMet P [(vn, .slice (ss.map fun b => .lit (.string b)) [])] W)
    (hg : P.globalNamed vn = some gn) (ht : (P.globals[gn]?).map (·.type) = some tv) (hu : P.underlying tv = some (.slice te)) (he : P.underlying te = some .string) (hc : P.cellsOf te = 1) {W : World}
    (h : laidMetH P [(vn, .slice (ss.map fun b => .lit (.string b)) [])] W) :
    ∃ (a : Addr) (cap : Nat), W.cell? ⟨gn, 0, none⟩ = some (.slice (some a) ss.length cap) ∧ gn < W.heap.size ∧ ∀ (i : Nat) (b : List UInt8), ss[i]? = some b → W.cell? (a.add i) = some (.string ⟨b.toArray⟩) := by
  rw [hl] at h
  obtain ⟨ps, ⟨g0, t0, cs0, f0, p0, q0, hg0, ht0, hv0, hd0, _⟩, _, _⟩ := h
  obtain rfl := Option.some.inj (hg.symm.trans hg0)
  obtain rfl := Option.some.inj (ht.symm.trans ht0)
  obtain ⟨a, cap, hcs, _, hel⟩ := open_row hu hc hd0
  have hcell : W.cell? ⟨gn, 0, none⟩ = some (.slice (some a) ss.length cap) := by
    have := World.var?_cell hg0 hv0 0
    rw [Array.eq_one_of_toList hcs] at this
    simpa using this
  refine ⟨a, cap, hcell, World.block_lt_of_cell? W _ hcell, fun i b hb => ?_⟩
  obtain ⟨v, n, q, hcv, hv⟩ := hel i (.lit (.string b)) (by simp [hb])
  obtain ⟨s, e0, e1, _⟩ := DataW.trod_string he hv
  simp only [List.cons.injEq, and_true] at e0
  subst e0
  rw [hcv]
  simp only [Prod.mk.injEq, DataW.lit.injEq, Lit.string.injEq] at e1
  have e2 : s = ⟨b.toArray⟩ := by
    obtain ⟨⟨l⟩⟩ := s
    have := e1.1
    simp at this
    rw [this]
  rw [e2]
end

end Go.Proofs.YtbfigfpaphajgaaFmt
