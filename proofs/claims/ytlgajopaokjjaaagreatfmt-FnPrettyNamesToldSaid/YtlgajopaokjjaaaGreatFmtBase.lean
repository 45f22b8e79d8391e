/-
  Plain words on trees and worlds, and small walks: the texts Kit, Tree, Ast, LawsTree, PassDef, Assert, PassKit, PassVis0, PassTy, PassList, PassFlds, PassMove, PassLaw, Ok, Ifn, FldFrom, PassFile, Elems, FElems, Fit, Size, TreeOpen, Told, joined. Conditions: as each theorem says.
-/
import Derived.Test.YtlgajopaokjjaaaGreatFmtRows
import Derived.WalkKit
import Derived.ProofKit
import Derived.SizedLaws
import Derived.OpenShut
import Derived.Lib.SmallJoins
import Derived.Outline
import Derived.BigQuiet
import Derived.Deep.QuietTactic
import Derived.WalkSpells
import Derived.WalkLawsBesides
import Derived.Lib.Hide
import Derived.Deep.RegionHeld3
import Derived.Deep.Quiet
import Derived.Deep.DeepCutAuto
import Derived.ChangeMaps5
import Derived.SliceStrings
import Derived.LoopTactic
import Derived.OwnWalk
import Derived.Deep.AppendLies
import Derived.Deep.RegionHeldLaw
import Derived.Deep.RegionLaw
import Derived.Deep.RegionLawGrows
import Derived.Deep.RegionWith
import Derived.RegionTactic
import Derived.Deep.Slices
import Derived.Deep.Fields
import Derived.ChangeSame
import Derived.Test.YtlgajopaokjjaaaGreatFmtCards
import Derived.Stop.JoinedTold
import Derived.SevenToldRow
namespace Go.Proofs.YtlgajopaokjjaaaGreatFmt
open Go.ChangeShapes Go.WideShapes Go.ChangeAt Go.RowKit Go.Joins

theorem own : ownKnob Tryz.prog.godebug = none := by kernel_rfl
theorem laidOut : laidOutB Tryz.prog = true := by kernel_rfl

section
variable {H : Type} {enc : TypeId × Value → H} {P : Program}

theorem trodAll_below (hl : laidOutB P = true) {W W' : World} (hb : Below W.heap.size W W') : ∀ {ts : List TypeId} {vs : List Value} {ds : List (DataW H)} {ps : List MemPlace},
    (∀ t ∈ ts, P.readableRec t = true ∧ t < P.types.size) → DataW.TrodAll enc P W 0 (fun _ => true) true ts vs ds ps → (∀ x ∈ ps, x.block < W.heap.size) →
    DataW.TrodAll enc P W' 0 (fun b => decide (b < W.heap.size)) true ts vs ds ps := by
  intro ts
  induction ts with
  | nil =>
    intro vs ds ps _ h _
    cases vs with
    | nil => cases ds with
      | nil => exact h
      | cons d ds => exact absurd h (by intro k; cases k)
    | cons v vs => exact absurd h (by intro k; cases k)
  | cons t ts ih =>
    intro vs ds ps hr h hlt
    cases vs with
    | nil => exact absurd h (by intro k; cases k)
    | cons v vs => cases ds with
      | nil => exact absurd h (by intro k; cases k)
      | cons d ds =>
        obtain ⟨p, q, hd, hrest, rfl⟩ := h
        exact ⟨p, q, Below.trod hl (hr t (by simp)).1 (hr t (by simp)).2 hd hb (fun x hx => hlt x (by simp [hx])),
          ih (fun t' ht' => hr t' (by simp [ht'])) hrest (fun x hx => hlt x (by simp [hx])), rfl⟩

theorem trodAll_length {W : World} : ∀ {ts : List TypeId} {vs : List Value} {ds : List (DataW H)} {ps : List MemPlace}, DataW.TrodAll enc P W 0 (fun _ => true) true ts vs ds ps → ds.length = ts.length := by
  intro ts
  induction ts with
  | nil =>
    intro vs ds ps h
    cases vs with
    | nil => cases ds with
      | nil => rfl
      | cons d ds => exact absurd h (by intro k; cases k)
    | cons v vs => exact absurd h (by intro k; cases k)
  | cons t ts ih =>
    intro vs ds ps h
    cases vs with
    | nil => exact absurd h (by intro k; cases k)
    | cons v vs => cases ds with
      | nil => exact absurd h (by intro k; cases k)
      | cons d ds =>
        obtain ⟨p, q, hd, hrest, rfl⟩ := h
        simp [ih hrest]

theorem law_post {fn : Func} {s : ChangeSpec} {W W' : World} {args : Array Value} {ds gs : List (DataW H)} {before : List MemPlace} {tb : TypeId}
    (hl : laidOutB P = true) (hvars : s.vars = []) (hrt : fn.resultTypes = #[tb]) (hb : P.underlying tb = some .bool)
    (hr : ∀ t ∈ fn.params.toList, P.readableRec t = true ∧ t < P.types.size)
    (hs : s.fn H ds = { results := [.lit (.bool true)], args := ds })
    (hW : DataW.Whole enc P fn.params.toList s.vars false W args.toList ds gs before) (hbel : Below W.heap.size W W') :
    s.post enc P fn false true false false W args (.bool true) W' := by
  have hW' := hW
  obtain ⟨p, q, hA, hV, rfl, hfz, hnd⟩ := hW
  rw [hvars] at hV
  obtain ⟨rfl, rfl⟩ := trodVars_none hV
  simp only [List.append_nil] at hW'
  refine ⟨ds, [], _, [], p, [], hW', ?_, ?_, ?_, hbel.frame _, fun h => by cases h⟩
  · rw [List.append_nil, hs, hrt]
    exact trodAll_mk1 (shut_bool hb true)
  · rw [List.append_nil, hs]
    exact trodAll_below hl hbel hr hA (fun x hx => by have := hW'.lt x hx; exact this)
  · rw [List.append_nil, hs, hvars]
    rfl

theorem law_lift {C : Checked} {os : Os} {f : FuncId} {fn : Func} {s : ChangeSpec} {tb : TypeId} (n : Nat)
    (own : ownKnob C.prog.godebug = none) (started : os.Started) (noInit : C.prog.inits.idxOf? f = none) (hfn : C.prog.funcs[f]? = some fn)
    (witness : ∃ (w : World) (tape : Tape) (i : Input), w.os = os ∧ (w.forCall tape i).Shaped C.prog ∧ i.vars = [] ∧ Input.okWide C.prog (w.forCall tape i) .any w.heap.size f i ∧
      s.pre6 enc C.prog fn [] false (w.forCall tape i).memory i.args ∧ ({} : Assume).holds C.prog (lone (Frame.enter C.prog f i.args .normal) [] (w.forCall tape i)))
    (hl : laidOutB C.prog = true) (hvars : s.vars = []) (hrt : fn.resultTypes = #[tb]) (hb : C.prog.underlying tb = some .bool)
    (hr : ∀ t ∈ fn.params.toList, C.prog.readableRec t = true ∧ t < C.prog.types.size)
    (hn : fn.params.toList.length = n)
    (hs : ∀ ds : List (DataW H), ds.length = n → s.fn H ds = { results := [.lit (.bool true)], args := ds })
    (walk : ∀ (W : World) (base : Nat) (args : Array Value) (ds : List (DataW H)) (ps : List MemPlace),
      (∀ (j : Nat) t v, fn.params[j]? = some t → args[j]? = some v → Value.okWide C.prog W .any base t v) →
      DataW.TrodAll enc C.prog W 0 (fun _ => true) true fn.params.toList args.toList ds ps →
      (∀ x ∈ ps, x.block < W.heap.size) →
      (DataW.weightsEach C.prog fn.params.toList ds).all (· ≤ reachBytes) = true →
      Calls C.prog f args W fun e W' => e = .returned (.bool true) ∧ Below W.heap.size W W') :
    ReturnsInHanded {} C os f .any (s.pre6 enc C.prog fn [] false) (s.post enc C.prog fn false true false false) := by
  refine returnsInHanded_of_change_sized own started noInit hfn witness ?_
  intro W base args ds gs before hval hW _ hsz _
  have hW' := hW
  obtain ⟨p, q, hA, hV, rfl, hfz, hnd⟩ := hW
  rw [hvars] at hV
  obtain ⟨rfl, rfl⟩ := trodVars_none hV
  have hlen : ds.length = n := by
    rw [← hn]; exact trodAll_length hA
  have hsz' : (DataW.weightsEach C.prog fn.params.toList ds).all (· ≤ reachBytes) = true := by
    have e : s.plain.varTypes C.prog = [] := by simp [ChangeSpec.plain, DataSpec.varTypes, hvars]
    rw [e] at hsz
    simpa using hsz
  have hlt : ∀ x ∈ p, x.block < W.heap.size := fun x hx => by
    have := hW'.lt x (by simpa using hx)
    exact this
  refine (walk W base args ds p hval hA hlt hsz').mono fun e W' ⟨he, hg⟩ => ?_
  exact ⟨_, he, law_post hl hvars hrt hb hr (hs ds hlen) hW' hg⟩
end

/-! ### Regions that draw their order: what stays while calls make new memory -/
/-- Below the size of W1 all is as in W1; old cells of the world W1 read in w' as they did. -/
abbrev Stay (W1 w' : World) : Prop := Below W1.heap.size W1 w' ∧ ∀ b o, b < W1.heap.size → w'.cell? ⟨b, o, none⟩ = W1.cell? ⟨b, o, none⟩
theorem stay_of {W1 w' : World} (h : Below W1.heap.size W1 w') : Stay W1 w' := ⟨h, fun b o hb => h.cell (p := ⟨b, o, none⟩) hb⟩
theorem stay_start (W1 : World) : Stay W1 W1.drew := stay_of (Below.refl W1.heap.size W1).drew
theorem stay_step {W1 w w' : World} (h : Stay W1 w) (hb : Below w.heap.size w w') : Stay W1 w' := stay_of (h.1.trans (hb.mono h.1.size))

/-- Old cells and marks, as rules for the walk. -/
theorem bcell {W w1 : World} (hb : Below W.heap.size W w1) : (∀ b o, b < W.heap.size → w1.cell? ⟨b, o, none⟩ = W.cell? ⟨b, o, none⟩) ∧ (∀ b o, b < W.heap.size → w1.frozen? ⟨b, o, none⟩ = W.frozen? ⟨b, o, none⟩) :=
  ⟨fun b o h => hb.cell (p := ⟨b, o, none⟩) h, fun b o h => hb.frozen (p := ⟨b, o, none⟩) h⟩
theorem stay_drew {W1 w : World} (h : Stay W1 w) : Stay W1 w.drew := stay_of h.1.drew
theorem stay_alloc {W1 w : World} (h : Stay W1 w) (o : Obj) : Stay W1 (w.alloc o) := stay_of (h.1.alloc h.1.size o)
theorem stay_set {W1 w : World} (h : Stay W1 w) {p : Addr} (hp : W1.heap.size ≤ p.block) (u : Value) : Stay W1 (w.setCell p u) := stay_of (h.1.setCell hp u)

/-- What a cell holds, whatever it is. -/
def cellD (w : World) (g j : Nat) : Value := (w.cell? ⟨g, j, none⟩).getD undef
/-- Block g has n cells that may be written. -/
abbrev HasRow (g n : Nat) (w : World) : Prop := (∀ j, j < n → w.cell? ⟨g, j, none⟩ = some (cellD w g j)) ∧ ∀ j, w.frozen? ⟨g, j, none⟩ = false
theorem hasRow_of {g n : Nat} {w : World} (h : ∀ j, j < n → (w.cell? ⟨g, j, none⟩).isSome = true) (hf : ∀ j, w.frozen? ⟨g, j, none⟩ = false) : HasRow g n w :=
  ⟨fun j hj => by
    obtain ⟨v, hv⟩ := Option.isSome_iff_exists.1 (h j hj)
    simp [cellD, hv], hf⟩
theorem hasRow_some {g n : Nat} {w : World} (h : HasRow g n w) {j : Nat} (hj : j < n) : (w.cell? ⟨g, j, none⟩).isSome = true := by rw [h.1 j hj]; rfl
theorem hasRow_new (w : World) (cs : Array Value) (t : TypeId) (n : Nat) (hn : cs.size = n) : HasRow w.heap.size n (w.alloc (.cells cs t)) :=
  hasRow_of (fun j hj => by
    rw [World.cell?_alloc_mark]
    simp [hn, hj]) (fun j => unfrozen_of_block (heap_alloc_new w _) j)
theorem hasRow_block {g n : Nat} {w w' : World} (h : HasRow g n w) (hb : w'.heap[g]? = w.heap[g]?) : HasRow g n w' :=
  hasRow_of (fun j hj => by rw [World.cell?_of_block (w := w) (w' := w') (a := ⟨g, j, none⟩) hb]; exact hasRow_some h hj) (fun j => by rw [World.frozen?_of_block (w := w) (w' := w') (a := ⟨g, j, none⟩) hb]; exact h.2 j)
theorem hasRow_below {g n B : Nat} {w w' : World} (h : HasRow g n w) (hb : Below B w w') (hg : g < B) : HasRow g n w' := hasRow_block h (hb.block g hg)
theorem hasRow_drew {g n : Nat} {w : World} (h : HasRow g n w) : HasRow g n w.drew := hasRow_block h rfl
theorem hasRow_alloc {g n : Nat} {w : World} (h : HasRow g n w) (hg : g < w.heap.size) (o : Obj) : HasRow g n (w.alloc o) := hasRow_block h (Below.heap_alloc w o g hg)
theorem hasRow_set {g n : Nat} {w : World} (h : HasRow g n w) (p : Addr) (u : Value) : HasRow g n (w.setCell p u) :=
  hasRow_of (fun j hj => by
    obtain ⟨v, hv⟩ := Option.isSome_iff_exists.1 (hasRow_some h hj)
    obtain ⟨v', hv'⟩ := cell?_setCell_some (w := w) (p := p) (x := u) (q := ⟨g, j, none⟩) (v := v) hv
    rw [hv']; rfl) (fun j => by rw [World.frozen?_setCell]; exact h.2 j)

theorem hasRow_lt {g n : Nat} {w : World} (h : HasRow g n w) (hn : 0 < n) : g < w.heap.size := World.block_lt_of_cell? w ⟨g, 0, none⟩ (h.1 0 hn)

/-- Both: old cells stay, and block g has n cells that may be written. -/
abbrev StayRow (W1 : World) (g n : Nat) (w' : World) : Prop := Stay W1 w' ∧ HasRow g n w'
theorem stayRow_step {W1 w w' : World} {g n : Nat} (h : StayRow W1 g n w) (hb : Below w.heap.size w w') (hn : 0 < n) : StayRow W1 g n w' :=
  ⟨stay_step h.1 hb, hasRow_below h.2 hb (hasRow_lt h.2 hn)⟩
theorem stayRow_set {W1 w : World} {g n : Nat} (h : StayRow W1 g n w) {p : Addr} (hp : W1.heap.size ≤ p.block) (u : Value) : StayRow W1 g n (w.setCell p u) := ⟨stay_set h.1 hp u, hasRow_set h.2 p u⟩
theorem stayRow_alloc {W1 w : World} {g n : Nat} (h : StayRow W1 g n w) (hn : 0 < n) (o : Obj) : StayRow W1 g n (w.alloc o) := ⟨stay_alloc h.1 o, hasRow_alloc h.2 (hasRow_lt h.2 hn) o⟩
theorem stayRow_drew {W1 w : World} {g n : Nat} (h : StayRow W1 g n w) : StayRow W1 g n w.drew := ⟨stay_drew h.1, hasRow_drew h.2⟩
theorem stayRow_base (W1 : World) (cs : Array Value) (t : TypeId) (g n : Nat) (hg : g = W1.heap.size) (hn : cs.size = n) : StayRow W1 g n (W1.alloc (.cells cs t)) := by
  subst hg
  exact ⟨stay_alloc (stay_of (Below.refl _ _)) _, hasRow_new W1 cs t _ hn⟩
/-- At the start: the new block is the one behind W1. -/
theorem stayRow_new (W1 : World) (cs : Array Value) (t : TypeId) (g n : Nat) (hg : g = W1.heap.size) (hn : cs.size = n) : StayRow W1 g n (W1.alloc (.cells cs t)).drew := by
  subst hg
  exact ⟨stay_drew (stay_alloc (stay_of (Below.refl _ _)) _), hasRow_drew (hasRow_new W1 cs t _ hn)⟩

theorem hasRow_unset {g n : Nat} {w : World} {p : Addr} {u : Value} (h : HasRow g n (w.setCell p u)) : HasRow g n w :=
  hasRow_of (fun j hj => by
    have hs := hasRow_some h hj
    by_cases e : p = ⟨g, j, none⟩
    · subst e
      cases hc : w.cell? ⟨g, j, none⟩ with
      | some v => rfl
      | none =>
        exfalso
        simp only [World.cell?, World.setCell, Array.getElem?_modify] at hs hc
        simp only [if_true] at hs
        cases hg : w.heap[g]? with
        | none => simp [hg] at hs
        | some o =>
          cases o <;> simp [hg] at hs hc
          omega
    · rwa [World.cell?_setCell_other _ _ _ _ e] at hs) (fun j => by have := h.2 j; rwa [World.frozen?_setCell] at this)
theorem row_put {g n : Nat} {w : World} (h : HasRow g n w) (j : Nat) (hj : j < n) (u : Value) : (w.setCell ⟨g, j, none⟩ u).cell? ⟨g, j, none⟩ = some u := World.cell?_setCell_same _ _ _ (h.1 j hj)
/-- Some stores into a row: what its cells hold. -/
theorem row1f {w : World} {g : Nat} (R0 : HasRow g 1 w) (a : Value) :
    (w.setCell ⟨g, 0, none⟩ a).cell? ⟨g, 0, none⟩ = some a := by
  exact row_put R0 0 (by decide) a
theorem row1 {W1 w : World} {g : Nat} {a : Value} (h : StayRow W1 g 1 (w.setCell ⟨g, 0, none⟩ a)) :
    (w.setCell ⟨g, 0, none⟩ a).cell? ⟨g, 0, none⟩ = some a :=
  row1f (hasRow_unset h.2) a
theorem row2f {w : World} {g : Nat} (R0 : HasRow g 2 w) (a b : Value) :
    (w.setCell ⟨g, 0, none⟩ a).cell? ⟨g, 0, none⟩ = some a ∧
      ((w.setCell ⟨g, 0, none⟩ a).setCell ⟨g, 1, none⟩ b).cell? ⟨g, 1, none⟩ = some b := by
  have R1 := hasRow_set R0 ⟨g, 0, none⟩ a
  exact ⟨row_put R0 0 (by decide) a, row_put R1 1 (by decide) b⟩
theorem row2 {W1 w : World} {g : Nat} {a b : Value} (h : StayRow W1 g 2 ((w.setCell ⟨g, 0, none⟩ a).setCell ⟨g, 1, none⟩ b)) :
    (w.setCell ⟨g, 0, none⟩ a).cell? ⟨g, 0, none⟩ = some a ∧
      ((w.setCell ⟨g, 0, none⟩ a).setCell ⟨g, 1, none⟩ b).cell? ⟨g, 1, none⟩ = some b :=
  row2f (hasRow_unset (hasRow_unset h.2)) a b
theorem row3f {w : World} {g : Nat} (R0 : HasRow g 3 w) (a b c : Value) :
    (w.setCell ⟨g, 0, none⟩ a).cell? ⟨g, 0, none⟩ = some a ∧
      ((w.setCell ⟨g, 0, none⟩ a).setCell ⟨g, 1, none⟩ b).cell? ⟨g, 1, none⟩ = some b ∧
      (((w.setCell ⟨g, 0, none⟩ a).setCell ⟨g, 1, none⟩ b).setCell ⟨g, 2, none⟩ c).cell? ⟨g, 2, none⟩ = some c := by
  have R1 := hasRow_set R0 ⟨g, 0, none⟩ a
  have R2 := hasRow_set R1 ⟨g, 1, none⟩ b
  exact ⟨row_put R0 0 (by decide) a, row_put R1 1 (by decide) b, row_put R2 2 (by decide) c⟩
theorem row3 {W1 w : World} {g : Nat} {a b c : Value} (h : StayRow W1 g 3 (((w.setCell ⟨g, 0, none⟩ a).setCell ⟨g, 1, none⟩ b).setCell ⟨g, 2, none⟩ c)) :
    (w.setCell ⟨g, 0, none⟩ a).cell? ⟨g, 0, none⟩ = some a ∧
      ((w.setCell ⟨g, 0, none⟩ a).setCell ⟨g, 1, none⟩ b).cell? ⟨g, 1, none⟩ = some b ∧
      (((w.setCell ⟨g, 0, none⟩ a).setCell ⟨g, 1, none⟩ b).setCell ⟨g, 2, none⟩ c).cell? ⟨g, 2, none⟩ = some c :=
  row3f (hasRow_unset (hasRow_unset (hasRow_unset h.2))) a b c
theorem row4f {w : World} {g : Nat} (R0 : HasRow g 4 w) (a b c d : Value) :
    (w.setCell ⟨g, 0, none⟩ a).cell? ⟨g, 0, none⟩ = some a ∧
      ((w.setCell ⟨g, 0, none⟩ a).setCell ⟨g, 1, none⟩ b).cell? ⟨g, 1, none⟩ = some b ∧
      (((w.setCell ⟨g, 0, none⟩ a).setCell ⟨g, 1, none⟩ b).setCell ⟨g, 2, none⟩ c).cell? ⟨g, 2, none⟩ = some c ∧
      ((((w.setCell ⟨g, 0, none⟩ a).setCell ⟨g, 1, none⟩ b).setCell ⟨g, 2, none⟩ c).setCell ⟨g, 3, none⟩ d).cell? ⟨g, 3, none⟩ = some d := by
  have R1 := hasRow_set R0 ⟨g, 0, none⟩ a
  have R2 := hasRow_set R1 ⟨g, 1, none⟩ b
  have R3 := hasRow_set R2 ⟨g, 2, none⟩ c
  exact ⟨row_put R0 0 (by decide) a, row_put R1 1 (by decide) b, row_put R2 2 (by decide) c, row_put R3 3 (by decide) d⟩
theorem row4 {W1 w : World} {g : Nat} {a b c d : Value} (h : StayRow W1 g 4 ((((w.setCell ⟨g, 0, none⟩ a).setCell ⟨g, 1, none⟩ b).setCell ⟨g, 2, none⟩ c).setCell ⟨g, 3, none⟩ d)) :
    (w.setCell ⟨g, 0, none⟩ a).cell? ⟨g, 0, none⟩ = some a ∧
      ((w.setCell ⟨g, 0, none⟩ a).setCell ⟨g, 1, none⟩ b).cell? ⟨g, 1, none⟩ = some b ∧
      (((w.setCell ⟨g, 0, none⟩ a).setCell ⟨g, 1, none⟩ b).setCell ⟨g, 2, none⟩ c).cell? ⟨g, 2, none⟩ = some c ∧
      ((((w.setCell ⟨g, 0, none⟩ a).setCell ⟨g, 1, none⟩ b).setCell ⟨g, 2, none⟩ c).setCell ⟨g, 3, none⟩ d).cell? ⟨g, 3, none⟩ = some d :=
  row4f (hasRow_unset (hasRow_unset (hasRow_unset (hasRow_unset h.2)))) a b c d
theorem row5f {w : World} {g : Nat} (R0 : HasRow g 5 w) (a b c d e : Value) :
    (w.setCell ⟨g, 0, none⟩ a).cell? ⟨g, 0, none⟩ = some a ∧
      ((w.setCell ⟨g, 0, none⟩ a).setCell ⟨g, 1, none⟩ b).cell? ⟨g, 1, none⟩ = some b ∧
      (((w.setCell ⟨g, 0, none⟩ a).setCell ⟨g, 1, none⟩ b).setCell ⟨g, 2, none⟩ c).cell? ⟨g, 2, none⟩ = some c ∧
      ((((w.setCell ⟨g, 0, none⟩ a).setCell ⟨g, 1, none⟩ b).setCell ⟨g, 2, none⟩ c).setCell ⟨g, 3, none⟩ d).cell? ⟨g, 3, none⟩ = some d ∧
      (((((w.setCell ⟨g, 0, none⟩ a).setCell ⟨g, 1, none⟩ b).setCell ⟨g, 2, none⟩ c).setCell ⟨g, 3, none⟩ d).setCell ⟨g, 4, none⟩ e).cell? ⟨g, 4, none⟩ = some e := by
  have R1 := hasRow_set R0 ⟨g, 0, none⟩ a
  have R2 := hasRow_set R1 ⟨g, 1, none⟩ b
  have R3 := hasRow_set R2 ⟨g, 2, none⟩ c
  have R4 := hasRow_set R3 ⟨g, 3, none⟩ d
  exact ⟨row_put R0 0 (by decide) a, row_put R1 1 (by decide) b, row_put R2 2 (by decide) c, row_put R3 3 (by decide) d, row_put R4 4 (by decide) e⟩
theorem row5 {W1 w : World} {g : Nat} {a b c d e : Value} (h : StayRow W1 g 5 (((((w.setCell ⟨g, 0, none⟩ a).setCell ⟨g, 1, none⟩ b).setCell ⟨g, 2, none⟩ c).setCell ⟨g, 3, none⟩ d).setCell ⟨g, 4, none⟩ e)) :
    (w.setCell ⟨g, 0, none⟩ a).cell? ⟨g, 0, none⟩ = some a ∧
      ((w.setCell ⟨g, 0, none⟩ a).setCell ⟨g, 1, none⟩ b).cell? ⟨g, 1, none⟩ = some b ∧
      (((w.setCell ⟨g, 0, none⟩ a).setCell ⟨g, 1, none⟩ b).setCell ⟨g, 2, none⟩ c).cell? ⟨g, 2, none⟩ = some c ∧
      ((((w.setCell ⟨g, 0, none⟩ a).setCell ⟨g, 1, none⟩ b).setCell ⟨g, 2, none⟩ c).setCell ⟨g, 3, none⟩ d).cell? ⟨g, 3, none⟩ = some d ∧
      (((((w.setCell ⟨g, 0, none⟩ a).setCell ⟨g, 1, none⟩ b).setCell ⟨g, 2, none⟩ c).setCell ⟨g, 3, none⟩ d).setCell ⟨g, 4, none⟩ e).cell? ⟨g, 4, none⟩ = some e :=
  row5f (hasRow_unset (hasRow_unset (hasRow_unset (hasRow_unset (hasRow_unset h.2))))) a b c d e
theorem row6f {w : World} {g : Nat} (R0 : HasRow g 6 w) (a b c d e f : Value) :
    (w.setCell ⟨g, 0, none⟩ a).cell? ⟨g, 0, none⟩ = some a ∧
      ((w.setCell ⟨g, 0, none⟩ a).setCell ⟨g, 1, none⟩ b).cell? ⟨g, 1, none⟩ = some b ∧
      (((w.setCell ⟨g, 0, none⟩ a).setCell ⟨g, 1, none⟩ b).setCell ⟨g, 2, none⟩ c).cell? ⟨g, 2, none⟩ = some c ∧
      ((((w.setCell ⟨g, 0, none⟩ a).setCell ⟨g, 1, none⟩ b).setCell ⟨g, 2, none⟩ c).setCell ⟨g, 3, none⟩ d).cell? ⟨g, 3, none⟩ = some d ∧
      (((((w.setCell ⟨g, 0, none⟩ a).setCell ⟨g, 1, none⟩ b).setCell ⟨g, 2, none⟩ c).setCell ⟨g, 3, none⟩ d).setCell ⟨g, 4, none⟩ e).cell? ⟨g, 4, none⟩ = some e ∧
      ((((((w.setCell ⟨g, 0, none⟩ a).setCell ⟨g, 1, none⟩ b).setCell ⟨g, 2, none⟩ c).setCell ⟨g, 3, none⟩ d).setCell ⟨g, 4, none⟩ e).setCell ⟨g, 5, none⟩ f).cell? ⟨g, 5, none⟩ = some f := by
  have R1 := hasRow_set R0 ⟨g, 0, none⟩ a
  have R2 := hasRow_set R1 ⟨g, 1, none⟩ b
  have R3 := hasRow_set R2 ⟨g, 2, none⟩ c
  have R4 := hasRow_set R3 ⟨g, 3, none⟩ d
  have R5 := hasRow_set R4 ⟨g, 4, none⟩ e
  exact ⟨row_put R0 0 (by decide) a, row_put R1 1 (by decide) b, row_put R2 2 (by decide) c, row_put R3 3 (by decide) d, row_put R4 4 (by decide) e, row_put R5 5 (by decide) f⟩
theorem row6 {W1 w : World} {g : Nat} {a b c d e f : Value} (h : StayRow W1 g 6 ((((((w.setCell ⟨g, 0, none⟩ a).setCell ⟨g, 1, none⟩ b).setCell ⟨g, 2, none⟩ c).setCell ⟨g, 3, none⟩ d).setCell ⟨g, 4, none⟩ e).setCell ⟨g, 5, none⟩ f)) :
    (w.setCell ⟨g, 0, none⟩ a).cell? ⟨g, 0, none⟩ = some a ∧
      ((w.setCell ⟨g, 0, none⟩ a).setCell ⟨g, 1, none⟩ b).cell? ⟨g, 1, none⟩ = some b ∧
      (((w.setCell ⟨g, 0, none⟩ a).setCell ⟨g, 1, none⟩ b).setCell ⟨g, 2, none⟩ c).cell? ⟨g, 2, none⟩ = some c ∧
      ((((w.setCell ⟨g, 0, none⟩ a).setCell ⟨g, 1, none⟩ b).setCell ⟨g, 2, none⟩ c).setCell ⟨g, 3, none⟩ d).cell? ⟨g, 3, none⟩ = some d ∧
      (((((w.setCell ⟨g, 0, none⟩ a).setCell ⟨g, 1, none⟩ b).setCell ⟨g, 2, none⟩ c).setCell ⟨g, 3, none⟩ d).setCell ⟨g, 4, none⟩ e).cell? ⟨g, 4, none⟩ = some e ∧
      ((((((w.setCell ⟨g, 0, none⟩ a).setCell ⟨g, 1, none⟩ b).setCell ⟨g, 2, none⟩ c).setCell ⟨g, 3, none⟩ d).setCell ⟨g, 4, none⟩ e).setCell ⟨g, 5, none⟩ f).cell? ⟨g, 5, none⟩ = some f :=
  row6f (hasRow_unset (hasRow_unset (hasRow_unset (hasRow_unset (hasRow_unset (hasRow_unset h.2)))))) a b c d e f

/-! ### A region that draws its order and holds guards: one walk of the text's order, in a class of worlds -/
section
variable {P : Program} {ops : Array Oper} {C : World → Prop} {Q : Act → Prop} {o : Oper} {rest : List Oper} {a : Act}
theorem wp_region_quiet_C {id : Nat} {Q' : Exit → Act → World → Prop} {w : World} {l : List Oper} (C : World → Prop) (hm : P.follows .mixedOrders = true) (hB : Region.lexB .any l.toArray = true) (hC : C w.drew)
    (h : wpQuiet P l.toArray C (fun a' => ∀ w', C w' → Q' .normal a' w') l a) : (Code.region id l.toArray true).wp P Q' a w :=
  wp_region_quiet (C := C) hm hB hC (by simpa using h)
theorem wpQ_skip (h : Region.wanted o (yielded ops a.tmps) = false) (k : wpQuiet P ops C Q rest (a.put o.dst undef)) : wpQuiet P ops C Q (o :: rest) a := by
  unfold wpQuiet; rw [if_neg (by rw [h]; decide)]; exact k
theorem wpQ_value {v : Value} (h : Region.wanted o (yielded ops a.tmps) = true) (hv : ∀ w, C w → (execOp a.eval o).run P w = .ok (.value v) w) (k : wpQuiet P ops C Q rest (a.put o.dst v)) :
    wpQuiet P ops C Q (o :: rest) a := by
  unfold wpQuiet; rw [if_pos h]
  exact ⟨v, fun w hw => by unfold Oper.quietAt; rw [hv w hw]; exact ⟨rfl, rfl⟩, k⟩
theorem wpQ_call {f : FuncId} {args : Array Value} {v : Value} (h : Region.wanted o (yielded ops a.tmps) = true) (hv : ∀ w, C w → (execOp a.eval o).run P w = .ok (.enter f args) w)
    (hc : ∀ w, C w → Calls P f args w fun e w'' => e = .returned v ∧ C w'') (k : wpQuiet P ops C Q rest (a.put o.dst v)) : wpQuiet P ops C Q (o :: rest) a := by
  unfold wpQuiet; rw [if_pos h]
  exact ⟨v, fun w hw => by unfold Oper.quietAt; rw [hv w hw]; exact ⟨rfl, hc w hw⟩, k⟩
end

/-- The facts that each law row of this seat asks of its parameters' types. -/
theorem params_ok {P : Program} {fn : Func} (h : (fn.params.toList.all fun t => P.readableRec t && decide (t < P.types.size)) = true) : ∀ t ∈ fn.params.toList, P.readableRec t = true ∧ t < P.types.size := by
  intro t ht
  have := List.all_eq_true.1 h t ht
  simpa using this

end Go.Proofs.YtlgajopaokjjaaaGreatFmt
namespace Go.Proofs.YtlgajopaokjjaaaGreatFmt
open Go.ChangeShapes Go.WideShapes Go.ChangeAt Go.RowKit Go.Joins

/-- A tree: what its root is, its text, its number, its mark, and what is below it. -/
inductive Tr where
  | mk (k : Int) (tx : ByteArray) (op : Int) (fl : Bool) (subs : List Tr)
def Tr.k : Tr → Int | .mk k _ _ _ _ => k
def Tr.tx : Tr → ByteArray | .mk _ x _ _ _ => x
def Tr.op : Tr → Int | .mk _ _ o _ _ => o
def Tr.fl : Tr → Bool | .mk _ _ _ f _ => f
def Tr.subs : Tr → List Tr | .mk _ _ _ _ s => s
theorem Tr.eta (t : Tr) : t = .mk t.k t.tx t.op t.fl t.subs := by cases t; rfl
theorem Tr.ext_ {s t : Tr} (h1 : s.k = t.k) (h2 : s.tx = t.tx) (h3 : s.op = t.op) (h4 : s.fl = t.fl) (h5 : s.subs = t.subs) : s = t := by
  rw [s.eta, t.eta, h1, h2, h3, h4, h5]
theorem Tr.ind {P : Tr → Prop} (h : ∀ t, (∀ s ∈ t.subs, P s) → P t) (t : Tr) : P t :=
  Tr.rec (motive_1 := P) (motive_2 := fun l => ∀ s ∈ l, P s) (fun _ _ _ _ _ ih => h _ ih) (fun _ h => by cases h) (fun _ _ ha hl => by simpa using ⟨ha, hl⟩) t

/-- No list in a tree is longer than M. -/
inductive Bnd (M : Nat) : Tr → Prop
  | mk (t : Tr) (h : t.subs.length ≤ M) (hr : ∀ s ∈ t.subs, Bnd M s) : Bnd M t
theorem Bnd.len {M : Nat} {t : Tr} (h : Bnd M t) : t.subs.length ≤ M := by cases h; assumption
theorem Bnd.sub {M : Nat} {t : Tr} (h : Bnd M t) : ∀ s ∈ t.subs, Bnd M s := by cases h; assumption

/-- The five cells of a node. -/
def nV (t : Tr) (u : Value) : List Value := [.int .i64 t.k, .string t.tx, .int .i64 t.op, .bool t.fl, u]
theorem nV5 (t : Tr) (u : Value) : (nV t u).length = 5 := rfl
/-- A slice of nodes that lies in blocks of S. -/
inductive Subs (w : World) (S : Nat → Prop) : List Tr → Value → Prop
  | none (a : Option Addr) (cap : Nat) : Subs w S [] (.slice a 0 cap)
  | row (l : List Tr) (b off cap : Nat) (us : Nat → Value) (hl : 0 < l.length) (hcap : l.length ≤ cap) (hb : S b)
      (hc : ∀ i t, l[i]? = some t → ∀ j c, (nV t (us i))[j]? = some c → w.cell? ⟨b, off + (i * 5 + j), .none⟩ = some c)
      (hr : ∀ i t, l[i]? = some t → Subs w S t.subs (us i)) : Subs w S l (.slice (some ⟨b, off, .none⟩) l.length cap)
theorem Subs.keep {w w' : World} {S T : Nat → Prop} {l : List Tr} {v : Value} (h : Subs w S l v) (hT : ∀ k, S k → k < w.heap.size → T k) (hb : ∀ k, S k → k < w.heap.size → w'.heap[k]? = w.heap[k]?) : Subs w' T l v := by
  induction h with
  | none a cap => exact .none a cap
  | row l b off cap us hl hcap hS hc hr ih =>
    have hlt : b < w.heap.size := by
      obtain ⟨t, ht⟩ : ∃ t, l[0]? = some t := ⟨_, List.getElem?_eq_getElem hl⟩
      exact World.block_lt_of_cell? w _ (hc 0 t ht 0 _ rfl)
    exact .row l b off cap us hl hcap (hT _ hS hlt) (fun i t hi j c hj => (World.cell?_of_block (w := w) (hb b hS hlt)).trans (hc i t hi j c hj)) ih
theorem Subs.bel {w w' : World} {S : Nat → Prop} {l : List Tr} {v : Value} (h : Subs w S l v) (hb : Below w.heap.size w w') : Subs w' S l v := h.keep (fun _ h _ => h) (fun k _ hk => hb.block k hk)
theorem Subs.mono {w : World} {S T : Nat → Prop} {l : List Tr} {v : Value} (h : Subs w S l v) (hT : ∀ k, S k → k < w.heap.size → T k) : Subs w T l v := h.keep hT (fun _ _ _ => rfl)
theorem Subs.form {w : World} {S : Nat → Prop} {l : List Tr} {v : Value} (h : Subs w S l v) : ∃ a cap, v = .slice a l.length cap ∧ l.length ≤ cap := by
  cases h with
  | none a cap => exact ⟨a, cap, rfl, Nat.zero_le _⟩
  | row _ b off cap us hl hcap => exact ⟨_, cap, rfl, hcap⟩
theorem Subs.oneCell {w : World} {S : Nat → Prop} {l : List Tr} {v : Value} (h : Subs w S l v) : v.oneCell' = true := by
  obtain ⟨a, cap, rfl, _⟩ := h.form
  rfl
/-- The node at a place. -/
theorem Subs.at_ {w : World} {S : Nat → Prop} {l : List Tr} {a : Option Addr} {n cap : Nat} (h : Subs w S l (.slice a n cap)) {i : Nat} {t : Tr} (ht : l[i]? = some t) :
    ∃ b off u, a = some ⟨b, off, .none⟩ ∧ S b ∧ b < w.heap.size ∧ Subs w S t.subs u ∧ w.cell? ⟨b, off + i * 5, .none⟩ = some (.int .i64 t.k) ∧ w.cell? ⟨b, off + i * 5 + 1, .none⟩ = some (.string t.tx) ∧
      w.cell? ⟨b, off + i * 5 + 2, .none⟩ = some (.int .i64 t.op) ∧ w.cell? ⟨b, off + i * 5 + 3, .none⟩ = some (.bool t.fl) ∧ w.cell? ⟨b, off + i * 5 + 4, .none⟩ = some u := by
  cases h with
  | none a cap => simp at ht
  | row _ b off cap us hl hcap hS hc hr =>
    have h0 := hc i t ht 0 _ rfl
    exact ⟨b, off, us i, rfl, hS, World.block_lt_of_cell? w _ h0, hr i t ht, h0, hc i t ht 1 _ rfl, hc i t ht 2 _ rfl, hc i t ht 3 _ rfl, hc i t ht 4 _ rfl⟩

/-- The cells of nodes in a row. -/
def CellsT (w : World) (S : Nat → Prop) : List Tr → List Value → Prop
  | [], xs => xs = []
  | t :: ts, xs => ∃ u ys, Subs w S t.subs u ∧ CellsT w S ts ys ∧ xs = nV t u ++ ys
theorem CellsT.keep {w w' : World} {S T : Nat → Prop} (hT : ∀ k, S k → k < w.heap.size → T k) (hb : ∀ k, S k → k < w.heap.size → w'.heap[k]? = w.heap[k]?) : ∀ {l : List Tr} {xs : List Value}, CellsT w S l xs → CellsT w' T l xs
  | [], _, h => h
  | _ :: _, _, ⟨u, ys, hc, hr, e⟩ => ⟨u, ys, hc.keep hT hb, CellsT.keep hT hb hr, e⟩
theorem CellsT.below {w w' : World} {S : Nat → Prop} {l : List Tr} {xs : List Value} (h : CellsT w S l xs) (hb : Below w.heap.size w w') : CellsT w' S l xs := h.keep (fun _ h _ => h) (fun k _ hk => hb.block k hk)
theorem CellsT.append {w : World} {S : Nat → Prop} : ∀ {ps : List Tr} {xs : List Value} {qs : List Tr} {ys : List Value}, CellsT w S ps xs → CellsT w S qs ys → CellsT w S (ps ++ qs) (xs ++ ys)
  | [], xs, qs, ys, h, h' => by
    have e : xs = [] := h
    subst e
    exact h'
  | p :: ps, xs, qs, ys, ⟨u, zs, hc, hr, e⟩, h' => ⟨u, zs ++ ys, hc, hr.append h', by rw [e, List.append_assoc]⟩
theorem CellsT.one {w : World} {S : Nat → Prop} {t : Tr} {u : Value} (hc : Subs w S t.subs u) : CellsT w S [t] (nV t u) := ⟨u, [], hc, rfl, by simp⟩
theorem CellsT.snoc {w : World} {S : Nat → Prop} {ps : List Tr} {xs : List Value} {t : Tr} {u : Value} (h : CellsT w S ps xs) (hc : Subs w S t.subs u) : CellsT w S (ps ++ [t]) (xs ++ nV t u) := h.append (.one hc)
theorem CellsT.length {w : World} {S : Nat → Prop} : ∀ {ps : List Tr} {xs : List Value}, CellsT w S ps xs → xs.length = ps.length * 5
  | [], _, h => by
    have e : _ = [] := h
    subst e
    rfl
  | _ :: ps, xs, ⟨u, ys, hc, hr, e⟩ => by
    subst e
    rw [List.length_append, nV5, CellsT.length hr, List.length_cons]
    omega
theorem CellsT.at_ {w : World} {S : Nat → Prop} : ∀ {ps : List Tr} {xs : List Value}, CellsT w S ps xs → ∀ (i : Nat), ∃ u, ∀ t, ps[i]? = some t → Subs w S t.subs u ∧ ∀ j c, (nV t u)[j]? = some c → xs[i * 5 + j]? = some c
  | [], _, _, i => ⟨.slice none 0 0, fun t h => by simp at h⟩
  | q :: ps, xs, ⟨u, ys, hc, hr, e⟩, i => by
    subst e
    cases i with
    | zero =>
      refine ⟨u, fun t ht => ?_⟩
      obtain rfl : q = t := by simpa using ht
      refine ⟨hc, fun j c hj => ?_⟩
      have hl : j < (nV q u).length := (List.getElem?_eq_some_iff.1 hj).1
      rw [show 0 * 5 + j = j by omega, List.getElem?_append_left hl, hj]
    | succ i =>
      obtain ⟨u', h'⟩ := CellsT.at_ hr i
      refine ⟨u', fun t ht => ?_⟩
      obtain ⟨h1, h2⟩ := h' t (by simpa using ht)
      refine ⟨h1, fun j c hj => ?_⟩
      rw [List.getElem?_append_right (by rw [nV5]; omega), nV5, show (i + 1) * 5 + j - 5 = i * 5 + j by omega]
      exact h2 j c hj
/-- Cells that lie in a block are a slice of nodes. -/
theorem CellsT.subs {w : World} {S : Nat → Prop} {ts : List Tr} {xs : List Value} (h : CellsT w S ts xs) {b off cap : Nat} (hcell : ∀ j c, xs[j]? = some c → w.cell? ⟨b, off + j, none⟩ = some c) (hcap : ts.length ≤ cap) (hb : S b) : Subs w S ts (.slice (some ⟨b, off, none⟩) ts.length cap) := by
  rcases Nat.eq_zero_or_pos ts.length with h0 | h0
  · obtain rfl := List.eq_nil_of_length_eq_zero h0
    exact .none _ _
  · exact .row ts b off cap (fun i => Classical.choose (h.at_ i)) h0 hcap hb (fun i t ht j c hj => hcell _ c ((Classical.choose_spec (h.at_ i) t ht).2 j c hj)) (fun i t ht => (Classical.choose_spec (h.at_ i) t ht).1)

/-- A slice of nodes that the call owns: its row lies from base on; what is below its nodes lies in S, and not in the row. -/
def OwnT (S : Nat → Prop) (base : Nat) (ty : TypeId) (w : World) (v : Value) (ts : List Tr) : Prop :=
  ∃ xs, w.ownsRow base ty 5 v ts.length xs ∧ CellsT w (fun k => S k ∧ v.ownBlock ≠ some k) ts xs
theorem OwnT.subs {S : Nat → Prop} {base : Nat} {ty : TypeId} {w : World} {v : Value} {ts : List Tr} (h : OwnT S base ty w v ts) {T : Nat → Prop} (hT : ∀ k, S k ∨ v.ownBlock = some k → T k) : Subs w T ts v := by
  obtain ⟨xs, ho, hc⟩ := h
  have hc' : CellsT w T ts xs := hc.keep (fun k h _ => hT k (.inl h.1)) (fun _ _ _ => rfl)
  rcases Nat.eq_zero_or_pos ts.length with h0 | h0
  · obtain rfl := List.eq_nil_of_length_eq_zero h0
    rcases ho.2 with ⟨rfl, _⟩ | ⟨g, cap, cur, rfl, _⟩
    · exact .none _ _
    · exact .none _ _
  · have hcap := ho.2
    obtain ⟨g, cap, rfl, _, hlt⟩ := ho.form h0
    have hle : ts.length ≤ cap := by
      rcases hcap with ⟨h, _⟩ | ⟨g', cap', cur, h, _, _, hle, _⟩
      · cases h
      · injection h with _ _ h3
        omega
    refine hc'.subs (fun j c hj => ?_) hle (hT g (.inr rfl))
    have := ho.cells (g := g) rfl j c hj
    have hadd : (⟨g, 0, none⟩ : Addr).add j = ⟨g, 0 + j, none⟩ := by unfold Addr.add; split <;> simp_all
    rwa [hadd] at this
theorem ownsRow_keep {w w' : World} {base : Nat} {t : TypeId} {n : Nat} {v : Value} {m : Nat} {xs : List Value} (h : w.ownsRow base t n v m xs) (hb : ∀ b, v.ownBlock = some b → w'.heap[b]? = w.heap[b]?) : w'.ownsRow base t n v m xs := by
  refine ⟨h.1, ?_⟩
  rcases h.2 with h2 | ⟨g, cap, cur, rfl, hg, hh, r⟩
  · exact .inl h2
  · exact .inr ⟨g, cap, cur, rfl, hg, (hb g rfl).trans hh, r⟩
theorem ownsRow_below {w w' : World} {base : Nat} {t : TypeId} {n : Nat} {v : Value} {m : Nat} {xs : List Value} (h : w.ownsRow base t n v m xs) (hb : Below w.heap.size w w') : w'.ownsRow base t n v m xs := by
  refine ⟨h.1, ?_⟩
  rcases h.2 with h2 | ⟨g, cap, cur, rfl, hg, hh, r⟩
  · exact .inl h2
  · have hlt : g < w.heap.size := by
      rcases Nat.lt_or_ge g w.heap.size with hlt | hge
      · exact hlt
      · rw [Array.getElem?_eq_none hge] at hh; cases hh
    exact .inr ⟨g, cap, cur, rfl, hg, (hb.block g hlt).trans hh, r⟩
/-- One node more: what is below it lies in S already, and not in the row. -/
theorem OwnT.push {S : Nat → Prop} {base : Nat} {ty : TypeId} {w w' : World} {v u : Value} {ts : List Tr} {t : Tr} {xs : List Value} {g m cap : Nat} (hc : CellsT w (fun k => S k ∧ v.ownBlock ≠ some k) ts xs) (hu : Subs w (fun k => S k ∧ v.ownBlock ≠ some k) t.subs u)
    (ho' : w'.ownsRow base ty 5 (.slice (some ⟨g, 0, none⟩) m cap) m (xs ++ nV t u)) (hm : m = ts.length + 1) (hgrow : w.grownBy w' v.ownBlock) (hat : v.ownBlock = some g ∨ g = w.heap.size) : OwnT S base ty w' (.slice (some ⟨g, 0, none⟩) m cap) (ts ++ [t]) := by
  have hc2 : CellsT w' (fun k => S k ∧ (Value.slice (some ⟨g, 0, none⟩) m cap).ownBlock ≠ some k) (ts ++ [t]) (xs ++ nV t u) := (hc.snoc hu).keep (fun k hk hlt => ⟨hk.1, fun e => by
      obtain rfl : g = k := by simpa [Value.ownBlock] using e
      rcases hat with h | h
      · exact hk.2 h
      · omega⟩) (fun k hk hlt => hgrow.block k hlt (fun e => hk.2 e.symm))
  refine ⟨_, ?_, hc2⟩
  rw [List.length_append, List.length_singleton, ← hm]
  exact ho'
theorem OwnT.below {S : Nat → Prop} {base : Nat} {ty : TypeId} {w w' : World} {v : Value} {ts : List Tr} (h : OwnT S base ty w v ts) (hb : Below w.heap.size w w') : OwnT S base ty w' v ts := by
  obtain ⟨xs, ho, hc⟩ := h
  exact ⟨xs, ownsRow_below ho hb, hc.below hb⟩
theorem OwnT.keep {S : Nat → Prop} {base : Nat} {ty : TypeId} {w w' : World} {v : Value} {ts : List Tr} (h : OwnT S base ty w v ts) (hb : ∀ k, S k ∨ v.ownBlock = some k → k < w.heap.size → w'.heap[k]? = w.heap[k]?) : OwnT S base ty w' v ts := by
  obtain ⟨xs, ho, hc⟩ := h
  refine ⟨xs, ownsRow_keep ho (fun b hv => hb b (.inr hv) (ho.lt b hv).2), hc.keep (fun _ h _ => h) (fun k hk hlt => hb k (.inl hk.1) hlt)⟩
theorem OwnT.form {S : Nat → Prop} {base : Nat} {ty : TypeId} {w : World} {v : Value} {ts : List Tr} (h : OwnT S base ty w v ts) : ∃ a cap, v = .slice a ts.length cap := by
  obtain ⟨xs, ho, hc⟩ := h
  rcases ho.2 with ⟨rfl, h0⟩ | ⟨g, cap, cur, rfl, _⟩
  · exact ⟨none, 0, by rw [h0]⟩
  · exact ⟨_, cap, rfl⟩
theorem cell_of {w : World} {b j : Nat} {cs : Array Value} {t : TypeId} {v : Value} (h : w.heap[b]? = some (.cells cs t)) (hv : cs[j]? = some v) : w.cell? ⟨b, j, none⟩ = some v := (cell_of_row _ _ j _ _ _ h).trans hv
theorem heap_set5 {w : World} {g k : Nat} {a b c d e : Value} (h : k ≠ g) : (((((w.setCell ⟨g, 0, none⟩ a).setCell ⟨g, 1, none⟩ b).setCell ⟨g, 2, none⟩ c).setCell ⟨g, 3, none⟩ d).setCell ⟨g, 4, none⟩ e).heap[k]? = w.heap[k]? :=
  (Below.heap_setCell _ _ _ _ h).trans ((Below.heap_setCell _ _ _ _ h).trans ((Below.heap_setCell _ _ _ _ h).trans ((Below.heap_setCell _ _ _ _ h).trans (Below.heap_setCell _ _ _ _ h))))
theorem below_set5 {B g : Nat} {w w' : World} {a b c d e : Value} (h : Below B w w') (hg : B ≤ g) : Below B w (((((w'.setCell ⟨g, 0, none⟩ a).setCell ⟨g, 1, none⟩ b).setCell ⟨g, 2, none⟩ c).setCell ⟨g, 3, none⟩ d).setCell ⟨g, 4, none⟩ e) :=
  ((((h.setCell hg _).setCell hg _).setCell hg _).setCell hg _).setCell hg _
theorem hasRow_cells {w : World} {g n : Nat} {cs : Array Value} {t : TypeId} (h : w.heap[g]? = some (.cells cs t)) (hn : n = cs.size) : HasRow g n w :=
  hasRow_of (fun j hj => by
    have : cs[j]? = some (cs[j]'(by omega)) := Array.getElem?_eq_getElem (by omega)
    rw [cell_of h this]; rfl) (fun j => unfrozen_of_block h j)
theorem nV_one {w : World} {S : Nat → Prop} {t : Tr} {u : Value} (h : Subs w S t.subs u) : ∀ c ∈ nV t u, c.oneCell' = true := by
  have := h.oneCell
  intro c hc
  simp only [nV, List.mem_cons, List.not_mem_nil, or_false] at hc
  rcases hc with rfl | rfl | rfl | rfl | rfl <;> first | rfl | assumption
theorem ownT_empty {S : Nat → Prop} {base : Nat} {t : TypeId} {w : World} {g : Nat} (hb : base ≤ g) (hg : w.heap[g]? = some (.cells #[] t)) : OwnT S base t w (.slice (some ⟨g, 0, none⟩) 0 0) [] :=
  ⟨[], ⟨rfl, .inr ⟨g, 0, #[], rfl, hb, hg, Nat.le_refl _, by unfold maxLen; omega, rfl, rfl⟩⟩, rfl⟩
theorem ownT_nil {S : Nat → Prop} {base : Nat} {t : TypeId} {w : World} : OwnT S base t w (.slice none 0 0) [] :=
  ⟨[], ⟨rfl, .inl ⟨rfl, rfl⟩⟩, rfl⟩
/-- The five cells that a node laid into a new block. -/
theorem news5 {w : World} {c0 c1 c2 c3 c4 : Value} {t : TypeId} {l : List Value} (hl : l = [c0, c1, c2, c3, c4]) : ∀ j u, l[j]? = some u → (w.alloc (.cells #[c0, c1, c2, c3, c4] t)).cell? ((⟨w.heap.size, 0, none⟩ : Addr).add j) = some u := by
  subst hl
  exact World.news_of_block (heap_alloc_new w _)
theorem take_snoc {α : Type} {l : List α} {j : Nat} {p : α} (h : l[j]? = some p) : l.take (j + 1) = l.take j ++ [p] := by
  rw [List.take_add_one, h]; rfl
end Go.Proofs.YtlgajopaokjjaaaGreatFmt
namespace Go.Proofs.YtlgajopaokjjaaaGreatFmt
open Go.ChangeShapes Go.WideShapes Go.ChangeAt Go.RowKit Go.Joins

/-- What a field of an object holds beside its name or string. -/
structure Fld where
  y1 : Nat
  b1 : Nat
  y2 : Nat
  b2 : Nat
  id : Option Nat
  p0 : Option Addr
  p1 : Option Addr
  p2 : Option Addr
  p3 : Option Addr
  n0 : Nat
  n1 : Nat
  n2 : Nat
  n3 : Nat
/-- A field's pointer to its name. -/
def ptrOf : Option Nat → Value
  | none => .pointer none
  | some c => .pointer (some ⟨c, 0, none⟩)
/-- The cells of a field with a name. -/
def Fld.rowId (F : Fld) (op : Int) (fl : Bool) (c : Nat) : List Value :=
  [.pointer none, .pointer (some ⟨c, 0, none⟩), .slice F.p0 0 F.n0, .slice F.p1 0 F.n1, .slice F.p2 0 F.n2, .slice F.p3 0 F.n3, .nilIface, .iface F.y2 (.pointer (some ⟨F.b2, 0, none⟩)), .nilIface,
    .pointer none, .string ByteArray.empty, .int .i64 0, .int .i64 0, .int .i64 0, .int .i64 0, .int .i64 1, .int .i64 op, .bool fl]
/-- The cells of a field with a string. -/
def Fld.rowStr (F : Fld) (op : Int) (fl : Bool) : List Value :=
  [.pointer none, .pointer none, .slice F.p0 0 F.n0, .slice F.p1 0 F.n1, .slice F.p2 0 F.n2, .slice F.p3 0 F.n3, .iface F.y1 (.pointer (some ⟨F.b1, 0, none⟩)), .iface F.y2 (.pointer (some ⟨F.b2, 0, none⟩)), .nilIface,
    .pointer none, .string ByteArray.empty, .int .i64 0, .int .i64 0, .int .i64 0, .int .i64 0, .int .i64 3, .int .i64 op, .bool fl]
/-- A field of a tree lies in a row of fields. -/
def Fld.at_ (w : World) (S : Nat → Prop) (b g : Nat) (cur : Array Value) (off : Nat) (F : Fld) (s : Tr) : Prop :=
  (∃ c t, s = .mk 37 s.tx s.op s.fl [t] ∧ F.id = some c ∧ S c ∧ c ≠ b ∧ c ≠ g ∧ w.heap[c]? = some (.cells #[.string s.tx] 92) ∧ ∀ j v, (F.rowId s.op s.fl c)[j]? = some v → cur[off + j]? = some v) ∨
  (∃ t1 t2, s = .mk 39 ByteArray.empty s.op s.fl [t1, t2] ∧ F.id = none ∧ ∀ j v, (F.rowStr s.op s.fl)[j]? = some v → cur[off + j]? = some v)

theorem heap_lt {w : World} {b : Nat} {o : Obj} (h : w.heap[b]? = some o) : b < w.heap.size := by
  rcases Nat.lt_or_ge b w.heap.size with hlt | hge
  · exact hlt
  · rw [Array.getElem?_eq_none hge] at h; cases h
theorem Fld.at_keep {w w' : World} {S T : Nat → Prop} (hT : ∀ k, S k → k < w.heap.size → T k) (hb : ∀ k, S k → k < w.heap.size → w'.heap[k]? = w.heap[k]?) {b g : Nat} {cur : Array Value} {off : Nat} {F : Fld} {s : Tr} (h : F.at_ w S b g cur off s) : F.at_ w' T b g cur off s := by
  rcases h with ⟨c, t, e, hi, hs, h1, h2, hh, hr⟩ | h
  · exact .inl ⟨c, t, e, hi, hT c hs (heap_lt hh), h1, h2, (hb c hs (heap_lt hh)).trans hh, hr⟩
  · exact .inr h

/-- A tree of package ast: its type, its block; it lies in blocks of S alone, the parts of it apart from each other. -/
inductive Ast (w : World) : (Nat → Prop) → Tr → TypeId → Nat → Prop
  | null {S : Nat → Prop} (b : Nat) (p0 p1 : Option Addr) (n0 n1 : Nat) (hS : S b)
      (hb : w.heap[b]? = some (.cells #[.slice p0 0 n0, .pointer none, .slice p1 0 n1, .pointer none, .string ByteArray.empty, .int .i64 0, .int .i64 0, .int .i64 0, .int .i64 0] 151)) :
      Ast w S (.mk 1 ByteArray.empty 0 false []) 149 b
  | boolean {S : Nat → Prop} (b : Nat) (fl : Bool) (p0 p1 : Option Addr) (n0 n1 : Nat) (hS : S b)
      (hb : w.heap[b]? = some (.cells #[.slice p0 0 n0, .pointer none, .slice p1 0 n1, .pointer none, .string ByteArray.empty, .int .i64 0, .int .i64 0, .int .i64 0, .int .i64 0, .bool fl] 158)) :
      Ast w S (.mk 2 ByteArray.empty 0 fl []) 156 b
  | number {S : Nat → Prop} (b : Nat) (tx : ByteArray) (p0 p1 : Option Addr) (n0 n1 : Nat) (hS : S b)
      (hb : w.heap[b]? = some (.cells #[.string tx, .slice p0 0 n0, .pointer none, .slice p1 0 n1, .pointer none, .string ByteArray.empty, .int .i64 0, .int .i64 0, .int .i64 0, .int .i64 0] 161)) :
      Ast w S (.mk 3 tx 0 false []) 159 b
  | str {S : Nat → Prop} (b : Nat) (tx : ByteArray) (op : Int) (p0 p1 : Option Addr) (n0 n1 : Nat) (hS : S b)
      (hb : w.heap[b]? = some (.cells #[.string tx, .string ByteArray.empty, .string ByteArray.empty, .slice p0 0 n0, .pointer none, .slice p1 0 n1, .pointer none, .string ByteArray.empty, .int .i64 0, .int .i64 0, .int .i64 0, .int .i64 0, .int .i64 op] 165)) :
      Ast w S (.mk 4 tx op false []) 162 b
  | self {S : Nat → Prop} (b : Nat) (p0 p1 : Option Addr) (n0 n1 : Nat) (hS : S b)
      (hb : w.heap[b]? = some (.cells #[.slice p0 0 n0, .pointer none, .slice p1 0 n1, .pointer none, .string ByteArray.empty, .int .i64 0, .int .i64 0, .int .i64 0, .int .i64 0] 167)) :
      Ast w S (.mk 5 ByteArray.empty 0 false []) 166 b
  | dollar {S : Nat → Prop} (b : Nat) (p0 p1 : Option Addr) (n0 n1 : Nat) (hS : S b)
      (hb : w.heap[b]? = some (.cells #[.slice p0 0 n0, .pointer none, .slice p1 0 n1, .pointer none, .string ByteArray.empty, .int .i64 0, .int .i64 0, .int .i64 0, .int .i64 0] 169)) :
      Ast w S (.mk 6 ByteArray.empty 0 false []) 168 b
  | var {S : Nat → Prop} (b : Nat) (tx : ByteArray) (p0 p1 : Option Addr) (n0 n1 : Nat) (hS : S b)
      (hb : w.heap[b]? = some (.cells #[.string tx, .slice p0 0 n0, .pointer none, .slice p1 0 n1, .pointer none, .string ByteArray.empty, .int .i64 0, .int .i64 0, .int .i64 0, .int .i64 0] 172)) :
      Ast w S (.mk 7 tx 0 false []) 170 b
  | unary {S : Nat → Prop} {S1 : Nat → Prop} (b : Nat) (op : Int) (p0 p1 : Option Addr) (n0 n1 : Nat) {t1 : Tr} {y1 : TypeId} {b1 : Nat} (hS : S b) (s1 : ∀ k, S1 k → S k ∧ k ≠ b)
      (hb : w.heap[b]? = some (.cells #[.iface y1 (.pointer (some ⟨b1, 0, .none⟩)), .slice p0 0 n0, .pointer none, .slice p1 0 n1, .pointer none, .string ByteArray.empty, .int .i64 0, .int .i64 0, .int .i64 0, .int .i64 0, .int .i64 op] 68)) (a1 : Ast w S1 t1 y1 b1) :
      Ast w S (.mk 8 ByteArray.empty op false [t1]) 53 b
  | binary {S : Nat → Prop} {S1 S2 : Nat → Prop} (b : Nat) (op : Int) (p0 p1 p2 : Option Addr) (n0 n1 n2 : Nat) {t1 t2 : Tr} {y1 y2 : TypeId} {b1 b2 : Nat} (hS : S b) (s1 : ∀ k, S1 k → S k ∧ k ≠ b) (s2 : ∀ k, S2 k → S k ∧ k ≠ b) (d12 : ∀ k, S1 k → ¬ S2 k)
      (hb : w.heap[b]? = some (.cells #[.iface y2 (.pointer (some ⟨b2, 0, .none⟩)), .iface y1 (.pointer (some ⟨b1, 0, .none⟩)), .slice p2 0 n2, .slice p0 0 n0, .pointer none, .slice p1 0 n1, .pointer none, .string ByteArray.empty, .int .i64 0, .int .i64 0, .int .i64 0, .int .i64 0, .int .i64 op] 72)) (a1 : Ast w S1 t1 y1 b1) (a2 : Ast w S2 t2 y2 b2) :
      Ast w S (.mk 9 ByteArray.empty op false [t1, t2]) 69 b
  | if2 {S : Nat → Prop} {S1 S2 : Nat → Prop} (b : Nat) (p0 p1 p2 p3 : Option Addr) (n0 n1 n2 n3 : Nat) {t1 t2 : Tr} {y1 y2 : TypeId} {b1 b2 : Nat} (hS : S b) (s1 : ∀ k, S1 k → S k ∧ k ≠ b) (s2 : ∀ k, S2 k → S k ∧ k ≠ b) (d12 : ∀ k, S1 k → ¬ S2 k)
      (hb : w.heap[b]? = some (.cells #[.iface y1 (.pointer (some ⟨b1, 0, .none⟩)), .iface y2 (.pointer (some ⟨b2, 0, .none⟩)), .nilIface, .slice p2 0 n2, .slice p3 0 n3, .slice p0 0 n0, .pointer none, .slice p1 0 n1, .pointer none, .string ByteArray.empty, .int .i64 0, .int .i64 0, .int .i64 0, .int .i64 0] 75)) (a1 : Ast w S1 t1 y1 b1) (a2 : Ast w S2 t2 y2 b2) :
      Ast w S (.mk 10 ByteArray.empty 0 false [t1, t2]) 73 b
  | if3 {S : Nat → Prop} {S1 S2 S3 : Nat → Prop} (b : Nat) (p0 p1 p2 p3 : Option Addr) (n0 n1 n2 n3 : Nat) {t1 t2 t3 : Tr} {y1 y2 y3 : TypeId} {b1 b2 b3 : Nat} (hS : S b) (s1 : ∀ k, S1 k → S k ∧ k ≠ b) (s2 : ∀ k, S2 k → S k ∧ k ≠ b) (s3 : ∀ k, S3 k → S k ∧ k ≠ b) (d12 : ∀ k, S1 k → ¬ S2 k) (d13 : ∀ k, S1 k → ¬ S3 k) (d23 : ∀ k, S2 k → ¬ S3 k)
      (hb : w.heap[b]? = some (.cells #[.iface y1 (.pointer (some ⟨b1, 0, .none⟩)), .iface y2 (.pointer (some ⟨b2, 0, .none⟩)), .iface y3 (.pointer (some ⟨b3, 0, .none⟩)), .slice p2 0 n2, .slice p3 0 n3, .slice p0 0 n0, .pointer none, .slice p1 0 n1, .pointer none, .string ByteArray.empty, .int .i64 0, .int .i64 0, .int .i64 0, .int .i64 0] 75)) (a1 : Ast w S1 t1 y1 b1) (a2 : Ast w S2 t2 y2 b2) (a3 : Ast w S3 t3 y3 b3) :
      Ast w S (.mk 10 ByteArray.empty 0 false [t1, t2, t3]) 73 b
  | brace {S : Nat → Prop} {S1 S2 : Nat → Prop} (b : Nat) (p0 p1 : Option Addr) (n0 n1 : Nat) {t1 t2 : Tr} {y1 y2 : TypeId} {b1 b2 : Nat} (hS : S b) (s1 : ∀ k, S1 k → S k ∧ k ≠ b) (s2 : ∀ k, S2 k → S k ∧ k ≠ b) (d12 : ∀ k, S1 k → ¬ S2 k)
      (hb : w.heap[b]? = some (.cells #[.iface y1 (.pointer (some ⟨b1, 0, .none⟩)), .iface y2 (.pointer (some ⟨b2, 0, .none⟩)), .slice p0 0 n0, .pointer none, .slice p1 0 n1, .pointer none, .string ByteArray.empty, .int .i64 0, .int .i64 0, .int .i64 0, .int .i64 0] 87)) (a1 : Ast w S1 t1 y1 b1) (a2 : Ast w S2 t2 y2 b2) :
      Ast w S (.mk 14 ByteArray.empty 0 false [t1, t2]) 85 b
  | index {S : Nat → Prop} {S1 S2 : Nat → Prop} (b : Nat) (p0 p1 p2 p3 : Option Addr) (n0 n1 n2 n3 : Nat) {t1 t2 : Tr} {y1 y2 : TypeId} {b1 b2 : Nat} (hS : S b) (s1 : ∀ k, S1 k → S k ∧ k ≠ b) (s2 : ∀ k, S2 k → S k ∧ k ≠ b) (d12 : ∀ k, S1 k → ¬ S2 k)
      (hb : w.heap[b]? = some (.cells #[.iface y1 (.pointer (some ⟨b1, 0, .none⟩)), .iface y2 (.pointer (some ⟨b2, 0, .none⟩)), .slice p2 0 n2, .slice p3 0 n3, .pointer none, .slice p0 0 n0, .pointer none, .slice p1 0 n1, .pointer none, .string ByteArray.empty, .int .i64 0, .int .i64 0, .int .i64 0, .int .i64 0] 91)) (a1 : Ast w S1 t1 y1 b1) (a2 : Ast w S2 t2 y2 b2) :
      Ast w S (.mk 15 ByteArray.empty 0 false [t1, t2]) 88 b
  | dot {S : Nat → Prop} {S1 : Nat → Prop} (b : Nat) (c : Nat) (tx : ByteArray) (p0 p1 p2 p3 : Option Addr) (n0 n1 n2 n3 : Nat) {t1 : Tr} {y1 : TypeId} {b1 : Nat} (hS : S b) (hc : S c) (hbc : b ≠ c) (s1 : ∀ k, S1 k → S k ∧ k ≠ b ∧ k ≠ c)
      (hb : w.heap[b]? = some (.cells #[.iface y1 (.pointer (some ⟨b1, 0, .none⟩)), .nilIface, .slice p2 0 n2, .slice p3 0 n3, .pointer (some ⟨c, 0, .none⟩), .slice p0 0 n0, .pointer none, .slice p1 0 n1, .pointer none, .string ByteArray.empty, .int .i64 0, .int .i64 0, .int .i64 0, .int .i64 0] 91)) (hid : w.heap[c]? = some (.cells #[.string tx] 92)) (a1 : Ast w S1 t1 y1 b1) :
      Ast w S (.mk 16 tx 0 false [t1]) 88 b
  | error {S : Nat → Prop} {S1 : Nat → Prop} (b : Nat) (p0 p1 : Option Addr) (n0 n1 : Nat) {t1 : Tr} {y1 : TypeId} {b1 : Nat} (hS : S b) (s1 : ∀ k, S1 k → S k ∧ k ≠ b)
      (hb : w.heap[b]? = some (.cells #[.iface y1 (.pointer (some ⟨b1, 0, .none⟩)), .slice p0 0 n0, .pointer none, .slice p1 0 n1, .pointer none, .string ByteArray.empty, .int .i64 0, .int .i64 0, .int .i64 0, .int .i64 0] 98)) (a1 : Ast w S1 t1 y1 b1) :
      Ast w S (.mk 23 ByteArray.empty 0 false [t1]) 96 b
  | parens {S : Nat → Prop} {S1 : Nat → Prop} (b : Nat) (p0 p1 p2 : Option Addr) (n0 n1 n2 : Nat) {t1 : Tr} {y1 : TypeId} {b1 : Nat} (hS : S b) (s1 : ∀ k, S1 k → S k ∧ k ≠ b)
      (hb : w.heap[b]? = some (.cells #[.iface y1 (.pointer (some ⟨b1, 0, .none⟩)), .slice p2 0 n2, .slice p0 0 n0, .pointer none, .slice p1 0 n1, .pointer none, .string ByteArray.empty, .int .i64 0, .int .i64 0, .int .i64 0, .int .i64 0] 101)) (a1 : Ast w S1 t1 y1 b1) :
      Ast w S (.mk 28 ByteArray.empty 0 false [t1]) 99 b
  | apply {S S1 : Nat → Prop} {SS : Nat → Nat → Prop} (b g : Nat) (cur : Array Value) (p0 p1 p2 p3 p4 p5 : Option Addr) (n0 n1 n2 n3 n4 n5 cap : Nat) (tc : Bool) (a : Option Addr) {t1 : Tr} {y1 : TypeId} {b1 : Nat} {l : List Tr} {ys bs : Nat → Nat} {ps : Nat → Option Addr} {ns : Nat → Nat} (hS : S b) (s1 : ∀ k, S1 k → S k ∧ k ≠ b ∧ (0 < l.length → k ≠ g))
      (hg : 0 < l.length → a = some ⟨g, 0, .none⟩ ∧ S g ∧ g ≠ b ∧ w.heap[g]? = some (.cells cur 84)) (hcap : l.length ≤ cap)
      (hr : ∀ i, i < l.length → cur[i * 2]? = some (.iface (ys i) (.pointer (some ⟨bs i, 0, .none⟩))) ∧ cur[i * 2 + 1]? = some (.slice (ps i) 0 (ns i)))
      (ss : ∀ i, i < l.length → ∀ k, SS i k → S k ∧ k ≠ b ∧ k ≠ g ∧ ¬ S1 k) (dd : ∀ i j, i < j → j < l.length → ∀ k, SS i k → ¬ SS j k)
      (hb : w.heap[b]? = some (.cells #[.iface y1 (.pointer (some ⟨b1, 0, .none⟩)), .slice p2 0 n2, .slice a l.length cap, .slice p3 0 n3, .slice p4 0 n4, .slice p5 0 n5, .slice p0 0 n0, .pointer none, .slice p1 0 n1, .pointer none, .string ByteArray.empty, .int .i64 0, .int .i64 0, .int .i64 0, .int .i64 0, .bool tc, .bool false] 82)) (a1 : Ast w S1 t1 y1 b1) (aa : ∀ i t, l[i]? = some t → Ast w (SS i) t (ys i) (bs i)) :
      Ast w S (.mk 13 ByteArray.empty 0 false (t1 :: l.map fun t => .mk 32 ByteArray.empty 0 false [t])) 76 b
  | array {S : Nat → Prop} {SS : Nat → Nat → Prop} (b g : Nat) (cur : Array Value) (p0 p1 p2 : Option Addr) (n0 n1 n2 cap : Nat) (tc : Bool) (a : Option Addr) {l : List Tr} {ys bs : Nat → Nat} {ps : Nat → Option Addr} {ns : Nat → Nat} (hS : S b)
      (hg : 0 < l.length → a = some ⟨g, 0, .none⟩ ∧ S g ∧ g ≠ b ∧ w.heap[g]? = some (.cells cur 84)) (hcap : l.length ≤ cap)
      (hr : ∀ i, i < l.length → cur[i * 2]? = some (.iface (ys i) (.pointer (some ⟨bs i, 0, .none⟩))) ∧ cur[i * 2 + 1]? = some (.slice (ps i) 0 (ns i)))
      (ss : ∀ i, i < l.length → ∀ k, SS i k → S k ∧ k ≠ b ∧ k ≠ g) (dd : ∀ i j, i < j → j < l.length → ∀ k, SS i k → ¬ SS j k)
      (hb : w.heap[b]? = some (.cells #[.slice a l.length cap, .slice p2 0 n2, .slice p0 0 n0, .pointer none, .slice p1 0 n1, .pointer none, .string ByteArray.empty, .int .i64 0, .int .i64 0, .int .i64 0, .int .i64 0, .bool tc] 95)) (aa : ∀ i t, l[i]? = some t → Ast w (SS i) t (ys i) (bs i)) :
      Ast w S (.mk 18 ByteArray.empty 0 false l) 93 b
  | object {S : Nat → Prop} {S1 S2 : Nat → Nat → Prop} (b g : Nat) (cur : Array Value) (p0 p1 p2 : Option Addr) (n0 n1 n2 cap : Nat) (tc : Bool) (a : Option Addr) {l : List Tr} {F : Nat → Fld} (hS : S b)
      (hg : 0 < l.length → a = some ⟨g, 0, .none⟩ ∧ S g ∧ g ≠ b ∧ w.heap[g]? = some (.cells cur 155)) (hcap : l.length ≤ cap)
      (hr : ∀ i t, l[i]? = some t → (F i).at_ w S b g cur (i * 18) t)
      (ss : ∀ i, i < l.length → ∀ k, S1 i k ∨ S2 i k → S k ∧ k ≠ b ∧ k ≠ g ∧ ∀ j, j < l.length → (F j).id ≠ some k) (d12 : ∀ i, i < l.length → ∀ k, S1 i k → ¬ S2 i k) (dd : ∀ i j, i < j → j < l.length → ∀ k, S1 i k ∨ S2 i k → ¬ (S1 j k ∨ S2 j k)) (di : ∀ i j, i < j → j < l.length → ∀ k, (F i).id = some k → (F j).id ≠ some k)
      (hb : w.heap[b]? = some (.cells #[.slice a l.length cap, .slice p2 0 n2, .slice p0 0 n0, .pointer none, .slice p1 0 n1, .pointer none, .string ByteArray.empty, .int .i64 0, .int .i64 0, .int .i64 0, .int .i64 0, .bool tc] 133))
      (a1 : ∀ i k op fl t1 t2, l[i]? = some (.mk k ByteArray.empty op fl [t1, t2]) → Ast w (S1 i) t1 (F i).y1 (F i).b1) (a2 : ∀ i t u, l[i]? = some t → t.subs.getLast? = some u → Ast w (S2 i) u (F i).y2 (F i).b2) :
      Ast w S (.mk 20 ByteArray.empty 0 false l) 128 b

theorem Ast.keep {w w' : World} {S : Nat → Prop} {t : Tr} {y : TypeId} {b : Nat} (h : Ast w S t y b) : ∀ {T : Nat → Prop}, (∀ k, S k → k < w.heap.size → T k) → (∀ k, S k → k < w.heap.size → w'.heap[k]? = w.heap[k]?) → Ast w' T t y b := by
  induction h with
  | null b p0 p1 n0 n1 hS hb => intro T hT hk; exact .null b p0 p1 n0 n1 (hT b hS (heap_lt hb)) ((hk b hS (heap_lt hb)).trans hb)
  | boolean b fl p0 p1 n0 n1 hS hb => intro T hT hk; exact .boolean b fl p0 p1 n0 n1 (hT b hS (heap_lt hb)) ((hk b hS (heap_lt hb)).trans hb)
  | number b tx p0 p1 n0 n1 hS hb => intro T hT hk; exact .number b tx p0 p1 n0 n1 (hT b hS (heap_lt hb)) ((hk b hS (heap_lt hb)).trans hb)
  | str b tx op p0 p1 n0 n1 hS hb => intro T hT hk; exact .str b tx op p0 p1 n0 n1 (hT b hS (heap_lt hb)) ((hk b hS (heap_lt hb)).trans hb)
  | self b p0 p1 n0 n1 hS hb => intro T hT hk; exact .self b p0 p1 n0 n1 (hT b hS (heap_lt hb)) ((hk b hS (heap_lt hb)).trans hb)
  | dollar b p0 p1 n0 n1 hS hb => intro T hT hk; exact .dollar b p0 p1 n0 n1 (hT b hS (heap_lt hb)) ((hk b hS (heap_lt hb)).trans hb)
  | var b tx p0 p1 n0 n1 hS hb => intro T hT hk; exact .var b tx p0 p1 n0 n1 (hT b hS (heap_lt hb)) ((hk b hS (heap_lt hb)).trans hb)
  | @unary S S1 b op p0 p1 n0 n1 t1 y1 b1 hS s1 hb a1 ih1 =>
    intro T hT hk
    exact .unary (S1 := fun k => S1 k ∧ k < w.heap.size) b op p0 p1 n0 n1 (hT b hS (heap_lt hb)) (fun k h => ⟨hT k (s1 k h.1).1 h.2, (s1 k h.1).2⟩) ((hk b hS (heap_lt hb)).trans hb) (ih1 (fun k h hl => ⟨h, hl⟩) (fun k h hl => hk k (s1 k h).1 hl))
  | @binary S S1 S2 b op p0 p1 p2 n0 n1 n2 t1 t2 y1 y2 b1 b2 hS s1 s2 d12 hb a1 a2 ih1 ih2 =>
    intro T hT hk
    exact .binary (S1 := fun k => S1 k ∧ k < w.heap.size) (S2 := fun k => S2 k ∧ k < w.heap.size) b op p0 p1 p2 n0 n1 n2 (hT b hS (heap_lt hb)) (fun k h => ⟨hT k (s1 k h.1).1 h.2, (s1 k h.1).2⟩) (fun k h => ⟨hT k (s2 k h.1).1 h.2, (s2 k h.1).2⟩) (fun k h h' => d12 k h.1 h'.1) ((hk b hS (heap_lt hb)).trans hb) (ih1 (fun k h hl => ⟨h, hl⟩) (fun k h hl => hk k (s1 k h).1 hl)) (ih2 (fun k h hl => ⟨h, hl⟩) (fun k h hl => hk k (s2 k h).1 hl))
  | @if2 S S1 S2 b p0 p1 p2 p3 n0 n1 n2 n3 t1 t2 y1 y2 b1 b2 hS s1 s2 d12 hb a1 a2 ih1 ih2 =>
    intro T hT hk
    exact .if2 (S1 := fun k => S1 k ∧ k < w.heap.size) (S2 := fun k => S2 k ∧ k < w.heap.size) b p0 p1 p2 p3 n0 n1 n2 n3 (hT b hS (heap_lt hb)) (fun k h => ⟨hT k (s1 k h.1).1 h.2, (s1 k h.1).2⟩) (fun k h => ⟨hT k (s2 k h.1).1 h.2, (s2 k h.1).2⟩) (fun k h h' => d12 k h.1 h'.1) ((hk b hS (heap_lt hb)).trans hb) (ih1 (fun k h hl => ⟨h, hl⟩) (fun k h hl => hk k (s1 k h).1 hl)) (ih2 (fun k h hl => ⟨h, hl⟩) (fun k h hl => hk k (s2 k h).1 hl))
  | @if3 S S1 S2 S3 b p0 p1 p2 p3 n0 n1 n2 n3 t1 t2 t3 y1 y2 y3 b1 b2 b3 hS s1 s2 s3 d12 d13 d23 hb a1 a2 a3 ih1 ih2 ih3 =>
    intro T hT hk
    exact .if3 (S1 := fun k => S1 k ∧ k < w.heap.size) (S2 := fun k => S2 k ∧ k < w.heap.size) (S3 := fun k => S3 k ∧ k < w.heap.size) b p0 p1 p2 p3 n0 n1 n2 n3 (hT b hS (heap_lt hb)) (fun k h => ⟨hT k (s1 k h.1).1 h.2, (s1 k h.1).2⟩) (fun k h => ⟨hT k (s2 k h.1).1 h.2, (s2 k h.1).2⟩) (fun k h => ⟨hT k (s3 k h.1).1 h.2, (s3 k h.1).2⟩) (fun k h h' => d12 k h.1 h'.1) (fun k h h' => d13 k h.1 h'.1) (fun k h h' => d23 k h.1 h'.1) ((hk b hS (heap_lt hb)).trans hb) (ih1 (fun k h hl => ⟨h, hl⟩) (fun k h hl => hk k (s1 k h).1 hl)) (ih2 (fun k h hl => ⟨h, hl⟩) (fun k h hl => hk k (s2 k h).1 hl)) (ih3 (fun k h hl => ⟨h, hl⟩) (fun k h hl => hk k (s3 k h).1 hl))
  | @brace S S1 S2 b p0 p1 n0 n1 t1 t2 y1 y2 b1 b2 hS s1 s2 d12 hb a1 a2 ih1 ih2 =>
    intro T hT hk
    exact .brace (S1 := fun k => S1 k ∧ k < w.heap.size) (S2 := fun k => S2 k ∧ k < w.heap.size) b p0 p1 n0 n1 (hT b hS (heap_lt hb)) (fun k h => ⟨hT k (s1 k h.1).1 h.2, (s1 k h.1).2⟩) (fun k h => ⟨hT k (s2 k h.1).1 h.2, (s2 k h.1).2⟩) (fun k h h' => d12 k h.1 h'.1) ((hk b hS (heap_lt hb)).trans hb) (ih1 (fun k h hl => ⟨h, hl⟩) (fun k h hl => hk k (s1 k h).1 hl)) (ih2 (fun k h hl => ⟨h, hl⟩) (fun k h hl => hk k (s2 k h).1 hl))
  | @index S S1 S2 b p0 p1 p2 p3 n0 n1 n2 n3 t1 t2 y1 y2 b1 b2 hS s1 s2 d12 hb a1 a2 ih1 ih2 =>
    intro T hT hk
    exact .index (S1 := fun k => S1 k ∧ k < w.heap.size) (S2 := fun k => S2 k ∧ k < w.heap.size) b p0 p1 p2 p3 n0 n1 n2 n3 (hT b hS (heap_lt hb)) (fun k h => ⟨hT k (s1 k h.1).1 h.2, (s1 k h.1).2⟩) (fun k h => ⟨hT k (s2 k h.1).1 h.2, (s2 k h.1).2⟩) (fun k h h' => d12 k h.1 h'.1) ((hk b hS (heap_lt hb)).trans hb) (ih1 (fun k h hl => ⟨h, hl⟩) (fun k h hl => hk k (s1 k h).1 hl)) (ih2 (fun k h hl => ⟨h, hl⟩) (fun k h hl => hk k (s2 k h).1 hl))
  | @dot S S1 b c tx p0 p1 p2 p3 n0 n1 n2 n3 t1 y1 b1 hS hc hbc s1 hb hid a1 ih1 =>
    intro T hT hk
    exact .dot (S1 := fun k => S1 k ∧ k < w.heap.size) b c tx p0 p1 p2 p3 n0 n1 n2 n3 (hT b hS (heap_lt hb)) (hT c hc (heap_lt hid)) hbc (fun k h => ⟨hT k (s1 k h.1).1 h.2, (s1 k h.1).2⟩) ((hk b hS (heap_lt hb)).trans hb) ((hk c hc (heap_lt hid)).trans hid) (ih1 (fun k h hl => ⟨h, hl⟩) (fun k h hl => hk k (s1 k h).1 hl))
  | @error S S1 b p0 p1 n0 n1 t1 y1 b1 hS s1 hb a1 ih1 =>
    intro T hT hk
    exact .error (S1 := fun k => S1 k ∧ k < w.heap.size) b p0 p1 n0 n1 (hT b hS (heap_lt hb)) (fun k h => ⟨hT k (s1 k h.1).1 h.2, (s1 k h.1).2⟩) ((hk b hS (heap_lt hb)).trans hb) (ih1 (fun k h hl => ⟨h, hl⟩) (fun k h hl => hk k (s1 k h).1 hl))
  | @parens S S1 b p0 p1 p2 n0 n1 n2 t1 y1 b1 hS s1 hb a1 ih1 =>
    intro T hT hk
    exact .parens (S1 := fun k => S1 k ∧ k < w.heap.size) b p0 p1 p2 n0 n1 n2 (hT b hS (heap_lt hb)) (fun k h => ⟨hT k (s1 k h.1).1 h.2, (s1 k h.1).2⟩) ((hk b hS (heap_lt hb)).trans hb) (ih1 (fun k h hl => ⟨h, hl⟩) (fun k h hl => hk k (s1 k h).1 hl))
  | @apply S S1 SS b g cur p0 p1 p2 p3 p4 p5 n0 n1 n2 n3 n4 n5 cap tc a t1 y1 b1 l ys bs ps ns hS s1 hg hcap hr ss dd hb a1 aa ih1 iha =>
    intro T hT hk
    exact .apply (S1 := fun k => S1 k ∧ k < w.heap.size) (SS := fun i k => SS i k ∧ k < w.heap.size) b g cur p0 p1 p2 p3 p4 p5 n0 n1 n2 n3 n4 n5 cap tc a (hT b hS (heap_lt hb)) (fun k h => ⟨hT k (s1 k h.1).1 h.2, (s1 k h.1).2⟩) (fun h0 => ⟨(hg h0).1, hT g (hg h0).2.1 (heap_lt (hg h0).2.2.2), (hg h0).2.2.1, (hk g (hg h0).2.1 (heap_lt (hg h0).2.2.2)).trans (hg h0).2.2.2⟩) hcap hr
      (fun i hi k h => ⟨hT k (ss i hi k h.1).1 h.2, (ss i hi k h.1).2.1, (ss i hi k h.1).2.2.1, fun h' => (ss i hi k h.1).2.2.2 h'.1⟩) (fun i j hij hj k h h' => dd i j hij hj k h.1 h'.1) ((hk b hS (heap_lt hb)).trans hb) (ih1 (fun k h hl => ⟨h, hl⟩) (fun k h hl => hk k (s1 k h).1 hl))
      (fun i t ht => iha i t ht (fun k h hl => ⟨h, hl⟩) (fun k h hl => hk k (ss i (List.getElem?_eq_some_iff.1 ht).1 k h).1 hl))
  | @array S SS b g cur p0 p1 p2 n0 n1 n2 cap tc a l ys bs ps ns hS hg hcap hr ss dd hb aa iha =>
    intro T hT hk
    exact .array (SS := fun i k => SS i k ∧ k < w.heap.size) b g cur p0 p1 p2 n0 n1 n2 cap tc a (hT b hS (heap_lt hb)) (fun h0 => ⟨(hg h0).1, hT g (hg h0).2.1 (heap_lt (hg h0).2.2.2), (hg h0).2.2.1, (hk g (hg h0).2.1 (heap_lt (hg h0).2.2.2)).trans (hg h0).2.2.2⟩) hcap hr
      (fun i hi k h => ⟨hT k (ss i hi k h.1).1 h.2, (ss i hi k h.1).2⟩) (fun i j hij hj k h h' => dd i j hij hj k h.1 h'.1) ((hk b hS (heap_lt hb)).trans hb)
      (fun i t ht => iha i t ht (fun k h hl => ⟨h, hl⟩) (fun k h hl => hk k (ss i (List.getElem?_eq_some_iff.1 ht).1 k h).1 hl))
  | @object S S1 S2 b g cur p0 p1 p2 n0 n1 n2 cap tc a l F hS hg hcap hr ss d12 dd di hb a1 a2 ih1 ih2 =>
    intro T hT hk
    exact .object (S1 := fun i k => S1 i k ∧ k < w.heap.size) (S2 := fun i k => S2 i k ∧ k < w.heap.size) b g cur p0 p1 p2 n0 n1 n2 cap tc a (hT b hS (heap_lt hb)) (fun h0 => ⟨(hg h0).1, hT g (hg h0).2.1 (heap_lt (hg h0).2.2.2), (hg h0).2.2.1, (hk g (hg h0).2.1 (heap_lt (hg h0).2.2.2)).trans (hg h0).2.2.2⟩) hcap (fun i t ht => Fld.at_keep hT hk (hr i t ht))
      (fun i hi k h => by
        have h2 : k < w.heap.size := h.elim (·.2) (·.2)
        have h3 := ss i hi k (h.imp (·.1) (·.1))
        exact ⟨hT k h3.1 h2, h3.2⟩) (fun i hi k h h' => d12 i hi k h.1 h'.1) (fun i j hij hj k h h' => dd i j hij hj k (h.imp (·.1) (·.1)) (h'.imp (·.1) (·.1))) di ((hk b hS (heap_lt hb)).trans hb)
      (fun i k op fl t1 t2 ht => ih1 i k op fl t1 t2 ht (fun k h hl => ⟨h, hl⟩) (fun k h hl => hk k (ss i (List.getElem?_eq_some_iff.1 ht).1 k (.inl h)).1 hl))
      (fun i t u ht hu => ih2 i t u ht hu (fun k h hl => ⟨h, hl⟩) (fun k h hl => hk k (ss i (List.getElem?_eq_some_iff.1 ht).1 k (.inr h)).1 hl))
theorem Ast.bel {w w' : World} {S : Nat → Prop} {t : Tr} {y : TypeId} {b : Nat} (h : Ast w S t y b) (hb : Below w.heap.size w w') : Ast w' S t y b := h.keep (fun _ h _ => h) (fun k _ hk => hb.block k hk)
theorem Ast.mono {w : World} {S T : Nat → Prop} {t : Tr} {y : TypeId} {b : Nat} (h : Ast w S t y b) (hT : ∀ k, S k → k < w.heap.size → T k) : Ast w T t y b := h.keep hT (fun _ _ _ => rfl)
end Go.Proofs.YtlgajopaokjjaaaGreatFmt
namespace Go.Proofs.YtlgajopaokjjaaaGreatFmt
open Go.ChangeShapes Go.WideShapes Go.ChangeAt Go.RowKit Go.Joins

theorem infoSN : (Tryz.prog.info? 28).map (fun i => (i.zero, i.size, i.bytes)) = some (some (.agg #[.int .i64 0, .string ByteArray.empty, .int .i64 0, .bool false, .slice none 0 0]), 5, 64) := by kernel_rfl
theorem info_parts {P : Program} {t : TypeId} {z : Value} {n b : Nat} (h : (P.info? t).map (fun i => (i.zero, i.size, i.bytes)) = some (some z, n, b)) : ∃ i, P.info? t = some i ∧ i.zero = some z ∧ i.size = n ∧ i.bytes = b := by
  obtain ⟨i, hi, e⟩ := Option.map_eq_some_iff.1 h
  simp only [Prod.mk.injEq] at e
  exact ⟨i, hi, e.1, e.2.1, e.2.2⟩

theorem heap_lt' {w : World} {b : Nat} {o : Obj} (h : w.heap[b]? = some o) : b < w.heap.size := by
  rcases Nat.lt_or_ge b w.heap.size with hlt | hge
  · exact hlt
  · rw [Array.getElem?_eq_none hge] at h; cases h
/-- A call of a Go function, as one step of a region that draws. -/
theorem step_call {P : Program} {ops : Array Oper} {o : Oper} {a : Act} {w : World} {K : Act → World → Prop} {Q : Exit → Act → World → Prop} {E : Prop} {f : FuncId} {args : Array Value} {R : Ending → World → Prop} (hg : o.guard = none)
    (hc : Calls P f args w R) (hv : (execOp a.eval o).run P w = .ok (.enter f args) w) (hR : ∀ e w', R e w' → ∃ v, e = .returned v ∧ K (a.put o.dst v) w') : if Region.wanted o (yielded ops a.tmps) = true then Oper.wp P o a w K Q else E := by
  have hw : Region.wanted o (yielded ops a.tmps) = true := by simp [Region.wanted, hg]
  rw [if_pos hw]
  unfold Oper.wp
  rw [hv, Oper.upon_enter]
  exact hc.mono fun e w' h => by
    obtain ⟨v, rfl, hk⟩ := hR e w' h
    exact hk
def TreeBack (w : World) (t : Tr) (e : Ending) (w' : World) : Prop := ∃ u', e = .returned (.agg #[.int .i64 t.k, .string t.tx, .int .i64 t.op, .bool t.fl, u']) ∧ Subs w' (fun k => w.heap.size ≤ k) t.subs u'
set_option maxRecDepth 100000 in
set_option maxHeartbeats 4000000 in
theorem lawsTree_any : ∀ (t : Tr) {S : Nat → Prop} {w : World} {u : Value}, Subs w S t.subs u → Bnd 2199023255488 t →
    Calls Tryz.prog 5 #[.agg #[.int .i64 t.k, .string t.tx, .int .i64 t.op, .bool t.fl, u]] w fun e w' => TreeBack w t e w' ∧ Below w.heap.size w w' := by
  intro t
  induction t using Tr.ind with
  | h t ih =>
  intro S w u hs hbd
  obtain ⟨a, cap, rfl, hcap⟩ := hs.form
  obtain ⟨i0, hi0, hz0, hs0, hb0⟩ := info_parts infoSN
  have H := Lib.hid hs; clear hs
  have HI := Lib.hid ih; clear ih
  have HBD := Lib.hid hbd; clear hbd
  have hlen : t.subs.length ≤ 2199023255488 := HBD.out.len
  go_enter Tryz.func5, Tryz.ntmps5
  go_wp2
  go_loopw [18] (fun i wr => ∃ j v, j ≤ t.subs.length ∧ i = .int .i64 (j : Nat) ∧ wr.heap[w.heap.size + 1 + 1]? = some (.cells #[.int .i64 t.k, .string t.tx, .int .i64 t.op, .bool t.fl, v] 28) ∧
      OwnT (fun k => w.heap.size + 1 + 1 < k) (w.heap.size + 1 + 1 + 1) 28 wr v (t.subs.take j) ∧ wr.heap[w.heap.size + 1]? = some (.cells #[.int .i64 0, .string ⟨#[]⟩, .int .i64 0, .bool false, .slice none 0 0] 28) ∧ Below w.heap.size w wr) (fun i _ => t.subs.length - (intOf i).toNat)
  case atStart =>
    refine ⟨0, .slice none 0 0, Nat.zero_le _, rfl, by simpa using heap_alloc_new ((w.alloc _).alloc _) _, ownT_nil, ?_, below_alloc3 _ _ _ _⟩
    have := Below.heap_alloc ((w.alloc (.cells #[.int .i64 t.k, .string t.tx, .int .i64 t.op, .bool t.fl, .slice a t.subs.length cap] 24)).alloc (.cells #[.int .i64 0, .string ⟨#[]⟩, .int .i64 0, .bool false, .slice none 0 0] 28)) (.cells #[.int .i64 t.k, .string t.tx, .int .i64 t.op, .bool t.fl, .slice none 0 0] 28) (w.heap.size + 1) (by simp)
    rw [this]
    simpa using heap_alloc_new (w.alloc (.cells #[.int .i64 t.k, .string t.tx, .int .i64 t.op, .bool t.fl, .slice a t.subs.length cap] 24)) _
  case round =>
    obtain ⟨j, v, hj, rfl, hA, hO, hres, hB⟩ := hrel
    have HA := Lib.hid hA; have HR := Lib.hid hres
    have zA : w.heap.size + 1 + 1 < wr.heap.size := heap_lt' hA
    have zR : w.heap.size + 1 < wr.heap.size := by omega
    have y1 : wr.cell? ⟨w.heap.size + 1 + 1, 4, none⟩ = some v := cell_of hA rfl
    have y2 : ∀ i, wr.frozen? ⟨w.heap.size + 1 + 1, i, none⟩ = false := fun i => unfrozen_of_block hA i
    clear hA hres
    obtain ⟨va, vc, rfl⟩ := hO.form
    rw [List.length_take, Nat.min_eq_left hj] at *
    by_cases hjl : j < t.subs.length
    · obtain ⟨p, hp⟩ : ∃ p, t.subs[j]? = some p := ⟨_, List.getElem?_eq_getElem hjl⟩
      obtain ⟨b, off, u, rfl, hSb, hlt, hu, c0, c1, c2, c3, c4⟩ := (H.out.bel hB).at_ hp
      obtain ⟨ua, uc, rfl, huc⟩ := hu.form
      have HP := Lib.hid hp; clear hp
      obtain ⟨xs, hown, hcs⟩ := hO
      rw [List.length_take, Nat.min_eq_left hj] at hown
      have HO := Lib.hid hown; clear hown
      have HC := Lib.hid hcs; clear hcs
      have HW1 := Lib.hid (show Below wr.heap.size wr (wr.alloc (.cells #[.int .i64 p.k, .string p.tx, .int .i64 p.op, .bool p.fl, .slice ua p.subs.length uc] 24)).drew from (below_alloc1 _ _).drew)
      have HU := Lib.hid (hu.bel HW1.out); clear hu
      have HM := Lib.hid (List.mem_of_getElem? HP.out)
      have HBP := Lib.hid (HBD.out.sub p HM.out)
      go_wp2_with fail
      clear c0 c1 c2 c3 c4
      go_region_law ((first
        | (refine step_call (by rfl) (HI.out p HM.out HU.out HBP.out) ?_ ?_; (focus (go_simp; done)); rintro e w4 ⟨⟨u4, rfl, hs4⟩, hb4⟩; refine ⟨_, rfl, ?_⟩; obtain ⟨a4, c4, rfl, hc4⟩ := hs4.form; have HS4 := Lib.hid hs4; clear hs4; have HB4 := Lib.hid (HW1.out.trans (hb4.mono (by simp))); clear hb4; have z4 : w.heap.size + 1 + 1 < w4.heap.size := Nat.lt_of_lt_of_le zA HB4.out.size; have x1 := ((bcell HB4.out).1 _ _ zA).trans y1; have x2 := fun i => ((bcell HB4.out).2 _ i zA).trans (y2 i); have HB5 := Lib.hid (HB4.out.trans ((below_alloc1 w4 (.cells #[.int .i64 p.k, .string p.tx, .int .i64 p.op, .bool p.fl, .slice a4 p.subs.length c4] 28)).mono HB4.out.size)); have HO5 := Lib.hid (ownsRow_below HO.out HB5.out); have HN5 := Lib.hid (nV_one HS4.out))
        | (refine step_append_lies _ rfl (.tmp 23) (.tmp 26) 26 rfl (w.heap.size + 1 + 1 + 1) 28 i0 (.agg #[.int .i64 0, .string ByteArray.empty, .int .i64 0, .bool false, .slice none 0 0]) 5 64 Tryz.underlying26 hi0 hz0 hs0 hb0 rfl (by omega) (.slice va j vc) j xs (by simp [Act.eval]) HO5.out ⟨w4.heap.size, 0, none⟩ 1 1 (nV p (.slice a4 p.subs.length c4)) (by simp [Act.eval]) rfl (news5 rfl) HN5.out (by omega) (by unfold maxLen; omega) (by omega) (by simp; omega) _ rfl ?_; intro g cap1 w6 hown6 hgrow6 hat6 hlt6; have HG6 := Lib.hid hgrow6; have HO6 := Lib.hid hown6; have HT6 := Lib.hid hat6; clear hgrow6 hown6 hat6; have HA6 := Lib.hid (show w6.heap[w.heap.size + 1 + 1]? = some (.cells #[.int .i64 t.k, .string t.tx, .int .i64 t.op, .bool t.fl, .slice va j vc] 28) from (HG6.out.block _ (by simp; omega) (fun e => by have := (HO5.out.lt _ e.symm).1; omega)).trans ((HB5.out.block _ zA).trans HA.out)); have v1 := cell_of (j := 4) HA6.out rfl; have v2 := fun i => unfrozen_of_block HA6.out i)))
      all_goals
        have hB5 := hB.trans (HB5.out.mono hB.size)
        have hS5 := (HS4.out.bel (below_alloc1 w4 (.cells #[.int .i64 p.k, .string p.tx, .int .i64 p.op, .bool p.fl, .slice a4 p.subs.length c4] 28))).mono (T := fun k => w.heap.size + 1 + 1 < k ∧ (Value.slice va j vc).ownBlock ≠ some k) (fun k hk _ => ⟨by simp at hk; omega, fun e => by have := (HO.out.lt k e).2; simp at hk; omega⟩)
        have hO6 := OwnT.push (S := fun k => w.heap.size + 1 + 1 < k) (HC.out.below HB5.out) hS5 HO6.out (by rw [List.length_take, Nat.min_eq_left hj]) HG6.out HT6.out
        rw [← take_snoc HP.out] at hO6
        have hg : w.heap.size + 1 + 1 + 1 ≤ g := (HO6.out.lt g rfl).1
        have hO7 := Lib.hid (hO6.keep (w' := w6.setCell ⟨w.heap.size + 1 + 1, 4, none⟩ (.slice (some ⟨g, 0, none⟩) (j + 1) cap1)) (fun k hk _ => Below.heap_setCell _ _ _ _ (by
          rcases hk with hk | hk
          · exact fun e => by simp only at e; omega
          · have e2 : g = k := by simpa [Value.ownBlock] using hk
            exact fun e => by simp only at e; omega)))
        have hB6 := hB5.grown HG6.out hB5.size (fun k hk => by have := (HO5.out.lt k hk).1; omega)
        have hB7 := Lib.hid (hB6.setCell (p := ⟨w.heap.size + 1 + 1, 4, none⟩) (by simp only; omega) (.slice (some ⟨g, 0, none⟩) (j + 1) cap1))
        have hA7 := Lib.hid (show (w6.setCell ⟨w.heap.size + 1 + 1, 4, none⟩ (.slice (some ⟨g, 0, none⟩) (j + 1) cap1)).heap[w.heap.size + 1 + 1]? = some (.cells #[.int .i64 t.k, .string t.tx, .int .i64 t.op, .bool t.fl, .slice (some ⟨g, 0, none⟩) (j + 1) cap1] 28) from by simp [World.setCell, Array.getElem?_modify, HA6.out])
        have hR7 := Lib.hid (show (w6.setCell ⟨w.heap.size + 1 + 1, 4, none⟩ (.slice (some ⟨g, 0, none⟩) (j + 1) cap1)).heap[w.heap.size + 1]? = some (.cells #[.int .i64 0, .string ⟨#[]⟩, .int .i64 0, .bool false, .slice none 0 0] 28) from (Below.heap_setCell _ _ _ _ (by simp only; omega)).trans ((HG6.out.block _ (by have := HB5.out.size; omega) (fun e => by have := (HO5.out.lt _ e.symm).1; omega)).trans ((HB5.out.block _ zR).trans HR.out)))
        clear hB5 hS5 hO6 hB6
        go_wp2
        go_roundw
        case rel => exact ⟨j + 1, _, by omega, by go_num, hA7.out, hO7.out, hR7.out, hB7.out⟩
        case measure => simp [intOf]; omega
    · obtain rfl : j = t.subs.length := by omega
      rw [List.take_length] at hO
      have z0 := cell_of (j := 0) HA.out rfl
      have z1 := cell_of (j := 1) HA.out rfl
      have z2 := cell_of (j := 2) HA.out rfl
      have z3 := cell_of (j := 3) HA.out rfl
      have r0 := cell_of (j := 0) HR.out rfl
      have r1 := cell_of (j := 1) HR.out rfl
      have r2 := cell_of (j := 2) HR.out rfl
      have r3 := cell_of (j := 3) HR.out rfl
      have r4 := cell_of (j := 4) HR.out rfl
      have r5 := fun i => unfrozen_of_block HR.out i
      have HO := Lib.hid hO; clear hO
      go_wp2
      obtain ⟨q0, q1, q2, q3, q4⟩ := row5f (hasRow_cells HR.out rfl) (.int .i64 t.k) (.string t.tx) (.int .i64 t.op) (.bool t.fl) (.slice va t.subs.length vc)
      refine bodyPost_ret (v := .agg #[.int .i64 t.k, .string t.tx, .int .i64 t.op, .bool t.fl, .slice va t.subs.length vc]) (by simp [results, Tryz.results5, go_sem, q0, q1, q2, q3, q4]) rfl ⟨⟨_, rfl, ?_⟩, below_set5 hB (by omega)⟩
      refine (HO.out.keep (fun k hk _ => heap_set5 (g := w.heap.size + 1) ?_)).subs (fun k hk => ?_)
      · rcases hk with hk | hk
        · omega
        · obtain ⟨xs, ho, _⟩ := HO.out
          have := (ho.lt k hk).1
          omega
      · rcases hk with hk | hk
        · show w.heap.size ≤ k
          omega
        · obtain ⟨xs, ho, _⟩ := HO.out
          have := (ho.lt k hk).1
          show w.heap.size ≤ k
          omega
end Go.Proofs.YtlgajopaokjjaaaGreatFmt
namespace Go.Proofs.YtlgajopaokjjaaaGreatFmt
open Go.ChangeShapes Go.WideShapes Go.ChangeAt Go.RowKit Go.Joins

theorem bk_drew {W : World} {g : Nat} {o : Obj} (h : W.heap[g]? = some o) : W.drew.heap[g]? = some o := h
theorem bk_alloc {W : World} {g : Nat} {o o' : Obj} (h : W.heap[g]? = some o) : (W.alloc o').heap[g]? = some o := (Below.heap_alloc W o' g (heap_lt h)).trans h
theorem bk_set {W : World} {g : Nat} {o : Obj} {p : Addr} {u : Value} (hn : g ≠ p.block) (h : W.heap[g]? = some o) : (W.setCell p u).heap[g]? = some o := (Below.heap_setCell _ _ _ _ hn).trans h
theorem set_same {w : World} {b i : Nat} {cs : Array Value} {T : TypeId} {v : Value} (hb : w.heap[b]? = some (.cells cs T)) : (w.setCell ⟨b, i, none⟩ v).heap[b]? = some (.cells (cs.setIfInBounds i v) T) := by
  simp [World.setCell, Array.getElem?_modify, hb]
/-- Of what was there, nothing but a set of blocks has turned. -/
structure Within (w w' : World) (S : Nat → Prop) : Prop where
  os : w'.os = w.os
  tape : w'.tape = w.tape
  output : w'.output = w.output
  size : w.heap.size ≤ w'.heap.size
  block : ∀ k, k < w.heap.size → ¬ S k → w'.heap[k]? = w.heap[k]?
theorem Within.refl (w : World) (S : Nat → Prop) : Within w w S := ⟨rfl, rfl, rfl, Nat.le_refl _, fun _ _ _ => rfl⟩
theorem Within.of_below {w w' : World} (h : Below w.heap.size w w') (S : Nat → Prop) : Within w w' S := ⟨h.os, h.tape, h.output, h.size, fun k hk _ => h.block k hk⟩
theorem Within.mono {w w' : World} {S T : Nat → Prop} (h : Within w w' S) (hT : ∀ k, S k → k < w.heap.size → T k) : Within w w' T := ⟨h.os, h.tape, h.output, h.size, fun k hk hn => h.block k hk (fun hs => hn (hT k hs hk))⟩
theorem Within.trans {w w' w'' : World} {S T : Nat → Prop} (h : Within w w' S) (h' : Within w' w'' T) (hT : ∀ k, T k → k < w.heap.size → S k) : Within w w'' S :=
  ⟨h'.os.trans h.os, h'.tape.trans h.tape, h'.output.trans h.output, Nat.le_trans h.size h'.size, fun k hk hn => (h'.block k (Nat.lt_of_lt_of_le hk h.size) (fun ht => hn (hT k ht hk))).trans (h.block k hk hn)⟩
theorem Within.below {w w' : World} {S : Nat → Prop} {B : Nat} (h : Within w w' S) (hS : ∀ k, S k → B ≤ k) (hB : B ≤ w.heap.size) : Below B w w' := ⟨h.os, h.tape, h.output, h.size, fun k hk => h.block k (Nat.lt_of_lt_of_le hk hB) (fun hs => Nat.lt_irrefl _ (Nat.lt_of_lt_of_le hk (hS k hs)))⟩
theorem Within.set {w : World} {S : Nat → Prop} {b i : Nat} (v : Value) (hb : S b) : Within w (w.setCell ⟨b, i, none⟩ v) S :=
  ⟨rfl, rfl, rfl, by simp [World.setCell], fun k _ hk => Below.heap_setCell _ _ _ _ (fun e => hk (by rw [show k = b from e]; exact hb))⟩
theorem Within.undrew {w w' : World} {S : Nat → Prop} (h : Within w.drew w' S) : Within w w' S := ⟨h.os, h.tape, h.output, h.size, h.block⟩
theorem Within.drew {w w' : World} {S : Nat → Prop} (h : Within w w' S) : Within w w'.drew S := ⟨h.os, h.tape, h.output, h.size, h.block⟩
/-- The old blocks of a tree, and new ones. -/
abbrev Wide (w : World) (S : Nat → Prop) : Nat → Prop := fun k => w.heap.size ≤ k ∨ (S k ∧ k < w.heap.size)
/-- What lay elsewhere lies there. -/
theorem Ast.within {w w' : World} {S T : Nat → Prop} {t : Tr} {y : TypeId} {b : Nat} (ha : Ast w T t y b) (h : Within w w' S) (hd : ∀ k, T k → ¬ S k) : Ast w' (fun k => T k ∧ k < w.heap.size) t y b :=
  ha.keep (fun _ hk hl => ⟨hk, hl⟩) (fun k hk hl => h.block k hl (hd k hk))
theorem Ast.later {w w' : World} {S T : Nat → Prop} {n : Nat} {t : Tr} {y : TypeId} {b : Nat} (ha : Ast w (fun k => T k ∧ k < n) t y b) (h : Within w w' S) (hd : ∀ k, T k → ¬ S k) : Ast w' (fun k => T k ∧ k < n) t y b :=
  ha.keep (fun _ hk _ => hk) (fun k hk hl => h.block k hl (hd k hk.1))
/-- A part of the tree, made anew while the world went from one to another one. -/
def Part (w : World) (S1 : Nat → Prop) (lo hi : Nat) : Nat → Prop := fun k => (lo ≤ k ∧ k < hi) ∨ (S1 k ∧ k < w.heap.size)
theorem part_of {w w2 w3 : World} {S1 : Nat → Prop} {t : Tr} {y : TypeId} {b : Nat} (ha : Ast w3 (Wide w2 (fun k => S1 k ∧ k < w.heap.size)) t y b) : Ast w3 (Part w S1 w2.heap.size w3.heap.size) t y b :=
  ha.mono fun k hk hl => by
    rcases hk with h | h
    · exact .inl ⟨h, hl⟩
    · exact .inr h.1
theorem part_first {w w3 : World} {S1 : Nat → Prop} {t : Tr} {y : TypeId} {b : Nat} (ha : Ast w3 (Wide w S1) t y b) : Ast w3 (Part w S1 w.heap.size w3.heap.size) t y b :=
  ha.mono fun k hk hl => by
    rcases hk with h | h
    · exact .inl ⟨h, hl⟩
    · exact .inr h
theorem part_far {w w3 w4 : World} {S1 S2 : Nat → Prop} {lo hi : Nat} {t : Tr} {y : TypeId} {b : Nat} (ha : Ast w3 (Part w S1 lo hi) t y b) (hg : Within w3 w4 S2) (h2 : ∀ k, S2 k → k < w.heap.size ∧ ¬ S1 k) (hlo : w.heap.size ≤ lo) : Ast w4 (Part w S1 lo hi) t y b :=
  ha.keep (fun _ hk _ => hk) (fun k hk hl => hg.block k hl (fun e => by
    rcases hk with h | h
    · have := (h2 k e).1; omega
    · exact (h2 k e).2 h.1))
theorem part_in {w : World} {S S1 : Nat → Prop} {b lo hi : Nat} (hlo : w.heap.size ≤ lo) (hb : b < w.heap.size) (s1 : ∀ k, S1 k → S k ∧ k ≠ b) : ∀ k, Part w S1 lo hi k → Wide w S k ∧ k ≠ b := fun k h => by
  rcases h with ⟨h1, _⟩ | ⟨h1, h2⟩
  · exact ⟨.inl (by omega), by omega⟩
  · exact ⟨.inr ⟨(s1 k h1).1, h2⟩, (s1 k h1).2⟩
theorem part_in3 {w : World} {S S1 : Nat → Prop} {b i lo hi : Nat} (hlo : w.heap.size ≤ lo) (hb : b < w.heap.size) (hil : i < w.heap.size) (s1 : ∀ k, S1 k → S k ∧ k ≠ b ∧ k ≠ i) : ∀ k, Part w S1 lo hi k → Wide w S k ∧ k ≠ b ∧ k ≠ i := fun k h => by
  rcases h with ⟨h1, _⟩ | ⟨h1, h2⟩
  · exact ⟨.inl (by omega), by omega, by omega⟩
  · exact ⟨.inr ⟨(s1 k h1).1, h2⟩, (s1 k h1).2⟩
theorem part_apart {w : World} {S1 S2 : Nat → Prop} {lo hi lo' hi' : Nat} (d : ∀ k, S1 k → ¬ S2 k) (h1 : hi ≤ lo') (h2 : w.heap.size ≤ lo) (h3 : w.heap.size ≤ lo') : ∀ k, Part w S1 lo hi k → ¬ Part w S2 lo' hi' k := fun k h h' => by
  rcases h with ⟨a1, a2⟩ | ⟨a1, a2⟩
  · rcases h' with ⟨b1, b2⟩ | ⟨b1, b2⟩ <;> omega
  · rcases h' with ⟨b1, b2⟩ | ⟨b1, b2⟩
    · omega
    · exact d k a1 b1
/-- A cell that holds a value holds it when it is written again. -/
theorem set_again {w : World} {b i : Nat} {cs : Array Value} {T : TypeId} {v : Value} (hb : w.heap[b]? = some (.cells cs T)) (hi : cs[i]? = some v) : Below w.heap.size w (w.setCell ⟨b, i, none⟩ v) := by
  refine ⟨rfl, rfl, rfl, by simp [World.setCell], fun k hk => ?_⟩
  by_cases e : k = b
  · subst e
    rw [set_same hb, hb]
    obtain ⟨h1, h2⟩ := Array.getElem?_eq_some_iff.1 hi
    congr 2
    apply Array.ext_getElem?
    intro m
    by_cases em : m = i
    · subst em; simp [h1, h2]
    · rw [Array.getElem?_setIfInBounds_ne (by omega)]
  · exact Below.heap_setCell _ _ _ _ e

theorem refod {w : World} {b i : Nat} {cs : Array Value} {T : TypeId} {v : Value} (hb : w.heap[b]? = some (.cells cs T)) (hi : cs[i]? = some v) (o : Obj) : Below w.heap.size w ((w.setCell ⟨b, i, none⟩ v).alloc o).drew :=
  have h := set_again hb hi
  (h.trans ((below_alloc1 _ o).mono h.size)).drew
/-- What a call of Visit leaves: the cell leads to the new tree, which lies in the old one's blocks and new ones. -/
def Visited (w : World) (S : Nat → Prop) (c j : Nat) (cs : Array Value) (T : TypeId) (t : Tr) (e : Ending) (w' : World) : Prop :=
  e = .returned (.tuple #[]) ∧ ∃ y' b', w'.heap[c]? = some (.cells (cs.setIfInBounds j (.iface y' (.pointer (some ⟨b', 0, none⟩)))) T) ∧ Within w w' (fun k => S k ∨ k = c) ∧ Ast w' (Wide w S) t y' b'
/-- The pass lies there: a struct without cells. -/
abbrev PassAt (TP : TypeId) (cb : Nat) (w : World) : Prop := w.heap[cb]? = some (.cells #[] TP)
/-- What Visit does at a tree: fV is Visit, yp the pass's type, TP the struct's. -/
def VisitOk (fV : FuncId) (yp TP : TypeId) (cb : Nat) (t t' : Tr) : Prop := ∀ (w : World) (S : Nat → Prop) (y : TypeId) (b c j : Nat) (cs : Array Value) (T : TypeId), PassAt TP cb w → ¬ S cb → c ≠ cb → Ast w S t y b → ¬ S c → w.heap[c]? = some (.cells cs T) → cs[j]? = some (.iface y (.pointer (some ⟨b, 0, none⟩))) →
    Calls Tryz.prog fV #[.pointer (some ⟨cb, 0, none⟩), .iface yp (.pointer (some ⟨cb, 0, none⟩)), .pointer (some ⟨c, j, none⟩), .nilIface] w fun e w' => Visited w S c j cs T t' e w'
theorem Ast.drew {w : World} {S : Nat → Prop} {t : Tr} {y : TypeId} {b : Nat} (h : Ast w S t y b) : Ast w.drew S t y b := h.keep (fun _ h _ => h) (fun _ _ _ => rfl)
/-- The same where an order has been drawn. -/
theorem VisitOk.drawn {fV : FuncId} {yp TP : TypeId} {cb : Nat} {t t' : Tr} (h : VisitOk fV yp TP cb t t') (w : World) (S : Nat → Prop) (y : TypeId) (b c j : Nat) (cs : Array Value) (T : TypeId) (hp : PassAt TP cb w) (hn : ¬ S cb) (hcc : c ≠ cb) (ha : Ast w S t y b) (hSc : ¬ S c) (hc : w.heap[c]? = some (.cells cs T)) (hj : cs[j]? = some (.iface y (.pointer (some ⟨b, 0, none⟩)))) :
    Calls Tryz.prog fV #[.pointer (some ⟨cb, 0, none⟩), .iface yp (.pointer (some ⟨cb, 0, none⟩)), .pointer (some ⟨c, j, none⟩), .nilIface] w.drew fun e w' => Visited w S c j cs T t' e w' :=
  (h w.drew S y b c j cs T hp hn hcc ha.drew hSc hc hj).mono fun _ _ ⟨he, y', b', h1, h2, h3⟩ => ⟨he, y', b', h1, ⟨h2.os, h2.tape, h2.output, h2.size, h2.block⟩, h3⟩
/-- What a method of a kind of nodes leaves: the node lies where it lay. -/
def Noded (w : World) (S : Nat → Prop) (t : Tr) (y : TypeId) (b : Nat) (e : Ending) (w' : World) : Prop :=
  e = .returned (.tuple #[]) ∧ Within w w' S ∧ Ast w' (Wide w S) t y b
theorem Noded.drew {w : World} {S : Nat → Prop} {t : Tr} {y : TypeId} {b : Nat} {e : Ending} {w' : World} (h : Noded w S t y b e w') : Noded w S t y b e w'.drew := ⟨h.1, ⟨h.2.1.os, h.2.1.tape, h.2.1.output, h.2.1.size, h.2.1.block⟩, h.2.2.drew⟩
theorem cell_in {w w' : World} {c : Nat} {cs : Array Value} {T : TypeId} {S : Nat → Prop} (hc : w.heap[c]? = some (.cells cs T)) (h : Within w w' S) (hS : ¬ S c) : w'.heap[c]? = some (.cells cs T) := (h.block c (heap_lt hc) hS).trans hc
end Go.Proofs.YtlgajopaokjjaaaGreatFmt
namespace Go.Proofs.YtlgajopaokjjaaaGreatFmt
open Go.ChangeShapes Go.WideShapes Go.ChangeAt Go.RowKit Go.Joins

theorem ta_Apply (u : TypeId) (v : Value) (W : World) : (Instr.typeAssert (.iface u v) 41 76 true).run Tryz.prog W = .ok (if u = 76 then .tuple #[v, .bool true] else .tuple #[.pointer none, .bool false]) W := by
  have e : (Instr.typeAssert (.iface u v) 41 76 true).run Tryz.prog W = (if u = 76 then (pure (Value.tuple #[v, .bool true]) : Sem Value) else (do pure (Value.tuple #[← zeroValue 76, .bool false]))).run Tryz.prog W := by kernel_rfl
  have z : (do pure (Value.tuple #[← zeroValue 76, .bool false]) : Sem Value).run Tryz.prog W = .ok (.tuple #[.pointer none, .bool false]) W := by kernel_rfl
  rw [e]; split
  · rfl
  · exact z
theorem ta_ApplyBrace (u : TypeId) (v : Value) (W : World) : (Instr.typeAssert (.iface u v) 41 85 true).run Tryz.prog W = .ok (if u = 85 then .tuple #[v, .bool true] else .tuple #[.pointer none, .bool false]) W := by
  have e : (Instr.typeAssert (.iface u v) 41 85 true).run Tryz.prog W = (if u = 85 then (pure (Value.tuple #[v, .bool true]) : Sem Value) else (do pure (Value.tuple #[← zeroValue 85, .bool false]))).run Tryz.prog W := by kernel_rfl
  have z : (do pure (Value.tuple #[← zeroValue 85, .bool false]) : Sem Value).run Tryz.prog W = .ok (.tuple #[.pointer none, .bool false]) W := by kernel_rfl
  rw [e]; split
  · rfl
  · exact z
theorem ta_Array (u : TypeId) (v : Value) (W : World) : (Instr.typeAssert (.iface u v) 41 93 true).run Tryz.prog W = .ok (if u = 93 then .tuple #[v, .bool true] else .tuple #[.pointer none, .bool false]) W := by
  have e : (Instr.typeAssert (.iface u v) 41 93 true).run Tryz.prog W = (if u = 93 then (pure (Value.tuple #[v, .bool true]) : Sem Value) else (do pure (Value.tuple #[← zeroValue 93, .bool false]))).run Tryz.prog W := by kernel_rfl
  have z : (do pure (Value.tuple #[← zeroValue 93, .bool false]) : Sem Value).run Tryz.prog W = .ok (.tuple #[.pointer none, .bool false]) W := by kernel_rfl
  rw [e]; split
  · rfl
  · exact z
theorem ta_ArrayComp (u : TypeId) (v : Value) (W : World) : (Instr.typeAssert (.iface u v) 41 120 true).run Tryz.prog W = .ok (if u = 120 then .tuple #[v, .bool true] else .tuple #[.pointer none, .bool false]) W := by
  have e : (Instr.typeAssert (.iface u v) 41 120 true).run Tryz.prog W = (if u = 120 then (pure (Value.tuple #[v, .bool true]) : Sem Value) else (do pure (Value.tuple #[← zeroValue 120, .bool false]))).run Tryz.prog W := by kernel_rfl
  have z : (do pure (Value.tuple #[← zeroValue 120, .bool false]) : Sem Value).run Tryz.prog W = .ok (.tuple #[.pointer none, .bool false]) W := by kernel_rfl
  rw [e]; split
  · rfl
  · exact z
theorem ta_Assert (u : TypeId) (v : Value) (W : World) : (Instr.typeAssert (.iface u v) 41 137 true).run Tryz.prog W = .ok (if u = 137 then .tuple #[v, .bool true] else .tuple #[.pointer none, .bool false]) W := by
  have e : (Instr.typeAssert (.iface u v) 41 137 true).run Tryz.prog W = (if u = 137 then (pure (Value.tuple #[v, .bool true]) : Sem Value) else (do pure (Value.tuple #[← zeroValue 137, .bool false]))).run Tryz.prog W := by kernel_rfl
  have z : (do pure (Value.tuple #[← zeroValue 137, .bool false]) : Sem Value).run Tryz.prog W = .ok (.tuple #[.pointer none, .bool false]) W := by kernel_rfl
  rw [e]; split
  · rfl
  · exact z
theorem ta_Binary (u : TypeId) (v : Value) (W : World) : (Instr.typeAssert (.iface u v) 41 69 true).run Tryz.prog W = .ok (if u = 69 then .tuple #[v, .bool true] else .tuple #[.pointer none, .bool false]) W := by
  have e : (Instr.typeAssert (.iface u v) 41 69 true).run Tryz.prog W = (if u = 69 then (pure (Value.tuple #[v, .bool true]) : Sem Value) else (do pure (Value.tuple #[← zeroValue 69, .bool false]))).run Tryz.prog W := by kernel_rfl
  have z : (do pure (Value.tuple #[← zeroValue 69, .bool false]) : Sem Value).run Tryz.prog W = .ok (.tuple #[.pointer none, .bool false]) W := by kernel_rfl
  rw [e]; split
  · rfl
  · exact z
theorem ta_Conditional (u : TypeId) (v : Value) (W : World) : (Instr.typeAssert (.iface u v) 41 73 true).run Tryz.prog W = .ok (if u = 73 then .tuple #[v, .bool true] else .tuple #[.pointer none, .bool false]) W := by
  have e : (Instr.typeAssert (.iface u v) 41 73 true).run Tryz.prog W = (if u = 73 then (pure (Value.tuple #[v, .bool true]) : Sem Value) else (do pure (Value.tuple #[← zeroValue 73, .bool false]))).run Tryz.prog W := by kernel_rfl
  have z : (do pure (Value.tuple #[← zeroValue 73, .bool false]) : Sem Value).run Tryz.prog W = .ok (.tuple #[.pointer none, .bool false]) W := by kernel_rfl
  rw [e]; split
  · rfl
  · exact z
theorem ta_Dollar (u : TypeId) (v : Value) (W : World) : (Instr.typeAssert (.iface u v) 41 168 true).run Tryz.prog W = .ok (if u = 168 then .tuple #[v, .bool true] else .tuple #[.pointer none, .bool false]) W := by
  have e : (Instr.typeAssert (.iface u v) 41 168 true).run Tryz.prog W = (if u = 168 then (pure (Value.tuple #[v, .bool true]) : Sem Value) else (do pure (Value.tuple #[← zeroValue 168, .bool false]))).run Tryz.prog W := by kernel_rfl
  have z : (do pure (Value.tuple #[← zeroValue 168, .bool false]) : Sem Value).run Tryz.prog W = .ok (.tuple #[.pointer none, .bool false]) W := by kernel_rfl
  rw [e]; split
  · rfl
  · exact z
theorem ta_Error (u : TypeId) (v : Value) (W : World) : (Instr.typeAssert (.iface u v) 41 96 true).run Tryz.prog W = .ok (if u = 96 then .tuple #[v, .bool true] else .tuple #[.pointer none, .bool false]) W := by
  have e : (Instr.typeAssert (.iface u v) 41 96 true).run Tryz.prog W = (if u = 96 then (pure (Value.tuple #[v, .bool true]) : Sem Value) else (do pure (Value.tuple #[← zeroValue 96, .bool false]))).run Tryz.prog W := by kernel_rfl
  have z : (do pure (Value.tuple #[← zeroValue 96, .bool false]) : Sem Value).run Tryz.prog W = .ok (.tuple #[.pointer none, .bool false]) W := by kernel_rfl
  rw [e]; split
  · rfl
  · exact z
theorem ta_Function (u : TypeId) (v : Value) (W : World) : (Instr.typeAssert (.iface u v) 41 114 true).run Tryz.prog W = .ok (if u = 114 then .tuple #[v, .bool true] else .tuple #[.pointer none, .bool false]) W := by
  have e : (Instr.typeAssert (.iface u v) 41 114 true).run Tryz.prog W = (if u = 114 then (pure (Value.tuple #[v, .bool true]) : Sem Value) else (do pure (Value.tuple #[← zeroValue 114, .bool false]))).run Tryz.prog W := by kernel_rfl
  have z : (do pure (Value.tuple #[← zeroValue 114, .bool false]) : Sem Value).run Tryz.prog W = .ok (.tuple #[.pointer none, .bool false]) W := by kernel_rfl
  rw [e]; split
  · rfl
  · exact z
theorem ta_Import (u : TypeId) (v : Value) (W : World) : (Instr.typeAssert (.iface u v) 41 173 true).run Tryz.prog W = .ok (if u = 173 then .tuple #[v, .bool true] else .tuple #[.pointer none, .bool false]) W := by
  have e : (Instr.typeAssert (.iface u v) 41 173 true).run Tryz.prog W = (if u = 173 then (pure (Value.tuple #[v, .bool true]) : Sem Value) else (do pure (Value.tuple #[← zeroValue 173, .bool false]))).run Tryz.prog W := by kernel_rfl
  have z : (do pure (Value.tuple #[← zeroValue 173, .bool false]) : Sem Value).run Tryz.prog W = .ok (.tuple #[.pointer none, .bool false]) W := by kernel_rfl
  rw [e]; split
  · rfl
  · exact z
theorem ta_ImportBin (u : TypeId) (v : Value) (W : World) : (Instr.typeAssert (.iface u v) 41 178 true).run Tryz.prog W = .ok (if u = 178 then .tuple #[v, .bool true] else .tuple #[.pointer none, .bool false]) W := by
  have e : (Instr.typeAssert (.iface u v) 41 178 true).run Tryz.prog W = (if u = 178 then (pure (Value.tuple #[v, .bool true]) : Sem Value) else (do pure (Value.tuple #[← zeroValue 178, .bool false]))).run Tryz.prog W := by kernel_rfl
  have z : (do pure (Value.tuple #[← zeroValue 178, .bool false]) : Sem Value).run Tryz.prog W = .ok (.tuple #[.pointer none, .bool false]) W := by kernel_rfl
  rw [e]; split
  · rfl
  · exact z
theorem ta_ImportStr (u : TypeId) (v : Value) (W : World) : (Instr.typeAssert (.iface u v) 41 176 true).run Tryz.prog W = .ok (if u = 176 then .tuple #[v, .bool true] else .tuple #[.pointer none, .bool false]) W := by
  have e : (Instr.typeAssert (.iface u v) 41 176 true).run Tryz.prog W = (if u = 176 then (pure (Value.tuple #[v, .bool true]) : Sem Value) else (do pure (Value.tuple #[← zeroValue 176, .bool false]))).run Tryz.prog W := by kernel_rfl
  have z : (do pure (Value.tuple #[← zeroValue 176, .bool false]) : Sem Value).run Tryz.prog W = .ok (.tuple #[.pointer none, .bool false]) W := by kernel_rfl
  rw [e]; split
  · rfl
  · exact z
theorem ta_InSuper (u : TypeId) (v : Value) (W : World) : (Instr.typeAssert (.iface u v) 41 143 true).run Tryz.prog W = .ok (if u = 143 then .tuple #[v, .bool true] else .tuple #[.pointer none, .bool false]) W := by
  have e : (Instr.typeAssert (.iface u v) 41 143 true).run Tryz.prog W = (if u = 143 then (pure (Value.tuple #[v, .bool true]) : Sem Value) else (do pure (Value.tuple #[← zeroValue 143, .bool false]))).run Tryz.prog W := by kernel_rfl
  have z : (do pure (Value.tuple #[← zeroValue 143, .bool false]) : Sem Value).run Tryz.prog W = .ok (.tuple #[.pointer none, .bool false]) W := by kernel_rfl
  rw [e]; split
  · rfl
  · exact z
theorem ta_Index (u : TypeId) (v : Value) (W : World) : (Instr.typeAssert (.iface u v) 41 88 true).run Tryz.prog W = .ok (if u = 88 then .tuple #[v, .bool true] else .tuple #[.pointer none, .bool false]) W := by
  have e : (Instr.typeAssert (.iface u v) 41 88 true).run Tryz.prog W = (if u = 88 then (pure (Value.tuple #[v, .bool true]) : Sem Value) else (do pure (Value.tuple #[← zeroValue 88, .bool false]))).run Tryz.prog W := by kernel_rfl
  have z : (do pure (Value.tuple #[← zeroValue 88, .bool false]) : Sem Value).run Tryz.prog W = .ok (.tuple #[.pointer none, .bool false]) W := by kernel_rfl
  rw [e]; split
  · rfl
  · exact z
theorem ta_LiteralBoolean (u : TypeId) (v : Value) (W : World) : (Instr.typeAssert (.iface u v) 41 156 true).run Tryz.prog W = .ok (if u = 156 then .tuple #[v, .bool true] else .tuple #[.pointer none, .bool false]) W := by
  have e : (Instr.typeAssert (.iface u v) 41 156 true).run Tryz.prog W = (if u = 156 then (pure (Value.tuple #[v, .bool true]) : Sem Value) else (do pure (Value.tuple #[← zeroValue 156, .bool false]))).run Tryz.prog W := by kernel_rfl
  have z : (do pure (Value.tuple #[← zeroValue 156, .bool false]) : Sem Value).run Tryz.prog W = .ok (.tuple #[.pointer none, .bool false]) W := by kernel_rfl
  rw [e]; split
  · rfl
  · exact z
theorem ta_LiteralNull (u : TypeId) (v : Value) (W : World) : (Instr.typeAssert (.iface u v) 41 149 true).run Tryz.prog W = .ok (if u = 149 then .tuple #[v, .bool true] else .tuple #[.pointer none, .bool false]) W := by
  have e : (Instr.typeAssert (.iface u v) 41 149 true).run Tryz.prog W = (if u = 149 then (pure (Value.tuple #[v, .bool true]) : Sem Value) else (do pure (Value.tuple #[← zeroValue 149, .bool false]))).run Tryz.prog W := by kernel_rfl
  have z : (do pure (Value.tuple #[← zeroValue 149, .bool false]) : Sem Value).run Tryz.prog W = .ok (.tuple #[.pointer none, .bool false]) W := by kernel_rfl
  rw [e]; split
  · rfl
  · exact z
theorem ta_LiteralNumber (u : TypeId) (v : Value) (W : World) : (Instr.typeAssert (.iface u v) 41 159 true).run Tryz.prog W = .ok (if u = 159 then .tuple #[v, .bool true] else .tuple #[.pointer none, .bool false]) W := by
  have e : (Instr.typeAssert (.iface u v) 41 159 true).run Tryz.prog W = (if u = 159 then (pure (Value.tuple #[v, .bool true]) : Sem Value) else (do pure (Value.tuple #[← zeroValue 159, .bool false]))).run Tryz.prog W := by kernel_rfl
  have z : (do pure (Value.tuple #[← zeroValue 159, .bool false]) : Sem Value).run Tryz.prog W = .ok (.tuple #[.pointer none, .bool false]) W := by kernel_rfl
  rw [e]; split
  · rfl
  · exact z
theorem ta_LiteralString (u : TypeId) (v : Value) (W : World) : (Instr.typeAssert (.iface u v) 41 162 true).run Tryz.prog W = .ok (if u = 162 then .tuple #[v, .bool true] else .tuple #[.pointer none, .bool false]) W := by
  have e : (Instr.typeAssert (.iface u v) 41 162 true).run Tryz.prog W = (if u = 162 then (pure (Value.tuple #[v, .bool true]) : Sem Value) else (do pure (Value.tuple #[← zeroValue 162, .bool false]))).run Tryz.prog W := by kernel_rfl
  have z : (do pure (Value.tuple #[← zeroValue 162, .bool false]) : Sem Value).run Tryz.prog W = .ok (.tuple #[.pointer none, .bool false]) W := by kernel_rfl
  rw [e]; split
  · rfl
  · exact z
theorem ta_Local (u : TypeId) (v : Value) (W : World) : (Instr.typeAssert (.iface u v) 41 112 true).run Tryz.prog W = .ok (if u = 112 then .tuple #[v, .bool true] else .tuple #[.pointer none, .bool false]) W := by
  have e : (Instr.typeAssert (.iface u v) 41 112 true).run Tryz.prog W = (if u = 112 then (pure (Value.tuple #[v, .bool true]) : Sem Value) else (do pure (Value.tuple #[← zeroValue 112, .bool false]))).run Tryz.prog W := by kernel_rfl
  have z : (do pure (Value.tuple #[← zeroValue 112, .bool false]) : Sem Value).run Tryz.prog W = .ok (.tuple #[.pointer none, .bool false]) W := by kernel_rfl
  rw [e]; split
  · rfl
  · exact z
theorem ta_Object (u : TypeId) (v : Value) (W : World) : (Instr.typeAssert (.iface u v) 41 128 true).run Tryz.prog W = .ok (if u = 128 then .tuple #[v, .bool true] else .tuple #[.pointer none, .bool false]) W := by
  have e : (Instr.typeAssert (.iface u v) 41 128 true).run Tryz.prog W = (if u = 128 then (pure (Value.tuple #[v, .bool true]) : Sem Value) else (do pure (Value.tuple #[← zeroValue 128, .bool false]))).run Tryz.prog W := by kernel_rfl
  have z : (do pure (Value.tuple #[← zeroValue 128, .bool false]) : Sem Value).run Tryz.prog W = .ok (.tuple #[.pointer none, .bool false]) W := by kernel_rfl
  rw [e]; split
  · rfl
  · exact z
theorem ta_ObjectComp (u : TypeId) (v : Value) (W : World) : (Instr.typeAssert (.iface u v) 41 134 true).run Tryz.prog W = .ok (if u = 134 then .tuple #[v, .bool true] else .tuple #[.pointer none, .bool false]) W := by
  have e : (Instr.typeAssert (.iface u v) 41 134 true).run Tryz.prog W = (if u = 134 then (pure (Value.tuple #[v, .bool true]) : Sem Value) else (do pure (Value.tuple #[← zeroValue 134, .bool false]))).run Tryz.prog W := by kernel_rfl
  have z : (do pure (Value.tuple #[← zeroValue 134, .bool false]) : Sem Value).run Tryz.prog W = .ok (.tuple #[.pointer none, .bool false]) W := by kernel_rfl
  rw [e]; split
  · rfl
  · exact z
theorem ta_Parens (u : TypeId) (v : Value) (W : World) : (Instr.typeAssert (.iface u v) 41 99 true).run Tryz.prog W = .ok (if u = 99 then .tuple #[v, .bool true] else .tuple #[.pointer none, .bool false]) W := by
  have e : (Instr.typeAssert (.iface u v) 41 99 true).run Tryz.prog W = (if u = 99 then (pure (Value.tuple #[v, .bool true]) : Sem Value) else (do pure (Value.tuple #[← zeroValue 99, .bool false]))).run Tryz.prog W := by kernel_rfl
  have z : (do pure (Value.tuple #[← zeroValue 99, .bool false]) : Sem Value).run Tryz.prog W = .ok (.tuple #[.pointer none, .bool false]) W := by kernel_rfl
  rw [e]; split
  · rfl
  · exact z
theorem ta_Self (u : TypeId) (v : Value) (W : World) : (Instr.typeAssert (.iface u v) 41 166 true).run Tryz.prog W = .ok (if u = 166 then .tuple #[v, .bool true] else .tuple #[.pointer none, .bool false]) W := by
  have e : (Instr.typeAssert (.iface u v) 41 166 true).run Tryz.prog W = (if u = 166 then (pure (Value.tuple #[v, .bool true]) : Sem Value) else (do pure (Value.tuple #[← zeroValue 166, .bool false]))).run Tryz.prog W := by kernel_rfl
  have z : (do pure (Value.tuple #[← zeroValue 166, .bool false]) : Sem Value).run Tryz.prog W = .ok (.tuple #[.pointer none, .bool false]) W := by kernel_rfl
  rw [e]; split
  · rfl
  · exact z
theorem ta_Slice (u : TypeId) (v : Value) (W : World) : (Instr.typeAssert (.iface u v) 41 117 true).run Tryz.prog W = .ok (if u = 117 then .tuple #[v, .bool true] else .tuple #[.pointer none, .bool false]) W := by
  have e : (Instr.typeAssert (.iface u v) 41 117 true).run Tryz.prog W = (if u = 117 then (pure (Value.tuple #[v, .bool true]) : Sem Value) else (do pure (Value.tuple #[← zeroValue 117, .bool false]))).run Tryz.prog W := by kernel_rfl
  have z : (do pure (Value.tuple #[← zeroValue 117, .bool false]) : Sem Value).run Tryz.prog W = .ok (.tuple #[.pointer none, .bool false]) W := by kernel_rfl
  rw [e]; split
  · rfl
  · exact z
theorem ta_SuperIndex (u : TypeId) (v : Value) (W : World) : (Instr.typeAssert (.iface u v) 41 140 true).run Tryz.prog W = .ok (if u = 140 then .tuple #[v, .bool true] else .tuple #[.pointer none, .bool false]) W := by
  have e : (Instr.typeAssert (.iface u v) 41 140 true).run Tryz.prog W = (if u = 140 then (pure (Value.tuple #[v, .bool true]) : Sem Value) else (do pure (Value.tuple #[← zeroValue 140, .bool false]))).run Tryz.prog W := by kernel_rfl
  have z : (do pure (Value.tuple #[← zeroValue 140, .bool false]) : Sem Value).run Tryz.prog W = .ok (.tuple #[.pointer none, .bool false]) W := by kernel_rfl
  rw [e]; split
  · rfl
  · exact z
theorem ta_Unary (u : TypeId) (v : Value) (W : World) : (Instr.typeAssert (.iface u v) 41 53 true).run Tryz.prog W = .ok (if u = 53 then .tuple #[v, .bool true] else .tuple #[.pointer none, .bool false]) W := by
  have e : (Instr.typeAssert (.iface u v) 41 53 true).run Tryz.prog W = (if u = 53 then (pure (Value.tuple #[v, .bool true]) : Sem Value) else (do pure (Value.tuple #[← zeroValue 53, .bool false]))).run Tryz.prog W := by kernel_rfl
  have z : (do pure (Value.tuple #[← zeroValue 53, .bool false]) : Sem Value).run Tryz.prog W = .ok (.tuple #[.pointer none, .bool false]) W := by kernel_rfl
  rw [e]; split
  · rfl
  · exact z
theorem ta_Var (u : TypeId) (v : Value) (W : World) : (Instr.typeAssert (.iface u v) 41 170 true).run Tryz.prog W = .ok (if u = 170 then .tuple #[v, .bool true] else .tuple #[.pointer none, .bool false]) W := by
  have e : (Instr.typeAssert (.iface u v) 41 170 true).run Tryz.prog W = (if u = 170 then (pure (Value.tuple #[v, .bool true]) : Sem Value) else (do pure (Value.tuple #[← zeroValue 170, .bool false]))).run Tryz.prog W := by kernel_rfl
  have z : (do pure (Value.tuple #[← zeroValue 170, .bool false]) : Sem Value).run Tryz.prog W = .ok (.tuple #[.pointer none, .bool false]) W := by kernel_rfl
  rw [e]; split
  · rfl
  · exact z
end Go.Proofs.YtlgajopaokjjaaaGreatFmt
namespace Go.Proofs.YtlgajopaokjjaaaGreatFmt
open Go.ChangeShapes Go.WideShapes Go.ChangeAt Go.RowKit Go.Joins

/-- A pass of type yp in block cb: its Visit is fV, its Fodder the base's. -/
structure PassVisits (fV : FuncId) (yp TP : TypeId) (cb : Nat) : Prop where
  visit : ∀ w, PassAt TP cb w → (method 388 yp (.pointer (some ⟨cb, 0, none⟩)) "Visit").run Tryz.prog w = .ok (fV, .pointer (some ⟨cb, 0, none⟩)) w
  enter : ∀ args w, (callFunc fV args).run Tryz.prog w = .ok (.enter fV args) w
  visit0 : ∀ w, (nilAhead 388 yp (.pointer (some ⟨cb, 0, none⟩)) "Visit").run Tryz.prog w = .ok (some false) w
  fodder : ∀ w, PassAt TP cb w → (method 388 yp (.pointer (some ⟨cb, 0, none⟩)) "Fodder").run Tryz.prog w = .ok (58, .pointer (some ⟨cb, 0, none⟩)) w
  fodder0 : ∀ w, (nilAhead 388 yp (.pointer (some ⟨cb, 0, none⟩)) "Fodder").run Tryz.prog w = .ok (some false) w
set_option maxRecDepth 100000 in
theorem fodder_any (r p : Value) {w : World} {x i n : Nat} {a : Option Addr} (h : w.cell? ⟨x, i, none⟩ = some (.slice a 0 n)) :
    Calls Tryz.prog 58 #[r, p, .pointer (some ⟨x, i, none⟩), .nilIface] w fun e w' => e = .returned (.tuple #[]) ∧ w = w' := by
  go_enter Tryz.func58, Tryz.ntmps58
  go_wp2
  go_loopw [13] (fun i wr => i = .int .i64 0 ∧ wr = w) (fun _ _ => 0)
  case atStart => exact ⟨rfl, rfl⟩
  case round =>
    obtain ⟨rfl, rfl⟩ := hrel
    go_wp2
    go_end0
    exact ⟨rfl, rfl⟩
theorem fodder_drawn (r p : Value) {w : World} {x i n : Nat} {a : Option Addr} (h : w.cell? ⟨x, i, none⟩ = some (.slice a 0 n)) :
    Calls Tryz.prog 58 #[r, p, .pointer (some ⟨x, i, none⟩), .nilIface] w.drew fun e w' => e = .returned (.tuple #[]) ∧ w.drew = w' := fodder_any (w := w.drew) r p h
end Go.Proofs.YtlgajopaokjjaaaGreatFmt
namespace Go.Proofs.YtlgajopaokjjaaaGreatFmt
open Go.ChangeShapes Go.WideShapes Go.ChangeAt Go.RowKit Go.Joins
attribute [local go_sem] ta_Apply ta_ApplyBrace ta_Array ta_ArrayComp ta_Assert ta_Binary ta_Conditional ta_Dollar ta_Error ta_Function ta_Import ta_ImportBin ta_ImportStr ta_InSuper ta_Index ta_LiteralBoolean ta_LiteralNull ta_LiteralNumber ta_LiteralString ta_Local ta_Object ta_ObjectComp ta_Parens ta_Self ta_Slice ta_SuperIndex ta_Unary ta_Var
theorem openFodder_any {b k : Nat} (w : World) : Calls Tryz.prog 63 #[.pointer (some ⟨b, k, none⟩)] w fun e w' => e = .returned (.pointer (some ⟨b, k, none⟩)) ∧ w = w' := by
  go_enter Tryz.func63, Tryz.ntmps63
  go_wp2
  go_ret
  exact ⟨rfl, rfl⟩
theorem of_LiteralNull (b : Nat) : ∀ w, (method 388 149 (.pointer (some ⟨b, 0, none⟩)) "OpenFodder").run Tryz.prog w = .ok (63, .pointer (some ⟨b, 0, none⟩)) w := fun _ => by kernel_rfl
theorem of_LiteralBoolean (b : Nat) : ∀ w, (method 388 156 (.pointer (some ⟨b, 0, none⟩)) "OpenFodder").run Tryz.prog w = .ok (63, .pointer (some ⟨b, 0, none⟩)) w := fun _ => by kernel_rfl
theorem of_LiteralNumber (b : Nat) : ∀ w, (method 388 159 (.pointer (some ⟨b, 0, none⟩)) "OpenFodder").run Tryz.prog w = .ok (63, .pointer (some ⟨b, 1, none⟩)) w := fun _ => by kernel_rfl
theorem of_LiteralString (b : Nat) : ∀ w, (method 388 162 (.pointer (some ⟨b, 0, none⟩)) "OpenFodder").run Tryz.prog w = .ok (63, .pointer (some ⟨b, 3, none⟩)) w := fun _ => by kernel_rfl
theorem of_Self (b : Nat) : ∀ w, (method 388 166 (.pointer (some ⟨b, 0, none⟩)) "OpenFodder").run Tryz.prog w = .ok (63, .pointer (some ⟨b, 0, none⟩)) w := fun _ => by kernel_rfl
theorem of_Dollar (b : Nat) : ∀ w, (method 388 168 (.pointer (some ⟨b, 0, none⟩)) "OpenFodder").run Tryz.prog w = .ok (63, .pointer (some ⟨b, 0, none⟩)) w := fun _ => by kernel_rfl
theorem of_Var (b : Nat) : ∀ w, (method 388 170 (.pointer (some ⟨b, 0, none⟩)) "OpenFodder").run Tryz.prog w = .ok (63, .pointer (some ⟨b, 1, none⟩)) w := fun _ => by kernel_rfl
theorem of_Unary (b : Nat) : ∀ w, (method 388 53 (.pointer (some ⟨b, 0, none⟩)) "OpenFodder").run Tryz.prog w = .ok (63, .pointer (some ⟨b, 1, none⟩)) w := fun _ => by kernel_rfl
theorem of_Binary (b : Nat) : ∀ w, (method 388 69 (.pointer (some ⟨b, 0, none⟩)) "OpenFodder").run Tryz.prog w = .ok (63, .pointer (some ⟨b, 3, none⟩)) w := fun _ => by kernel_rfl
theorem of_Conditional (b : Nat) : ∀ w, (method 388 73 (.pointer (some ⟨b, 0, none⟩)) "OpenFodder").run Tryz.prog w = .ok (63, .pointer (some ⟨b, 5, none⟩)) w := fun _ => by kernel_rfl
theorem of_ApplyBrace (b : Nat) : ∀ w, (method 388 85 (.pointer (some ⟨b, 0, none⟩)) "OpenFodder").run Tryz.prog w = .ok (63, .pointer (some ⟨b, 2, none⟩)) w := fun _ => by kernel_rfl
theorem of_Index (b : Nat) : ∀ w, (method 388 88 (.pointer (some ⟨b, 0, none⟩)) "OpenFodder").run Tryz.prog w = .ok (63, .pointer (some ⟨b, 5, none⟩)) w := fun _ => by kernel_rfl
theorem of_Error (b : Nat) : ∀ w, (method 388 96 (.pointer (some ⟨b, 0, none⟩)) "OpenFodder").run Tryz.prog w = .ok (63, .pointer (some ⟨b, 1, none⟩)) w := fun _ => by kernel_rfl
theorem of_Parens (b : Nat) : ∀ w, (method 388 99 (.pointer (some ⟨b, 0, none⟩)) "OpenFodder").run Tryz.prog w = .ok (63, .pointer (some ⟨b, 2, none⟩)) w := fun _ => by kernel_rfl
theorem of_Apply (b : Nat) : ∀ w, (method 388 76 (.pointer (some ⟨b, 0, none⟩)) "OpenFodder").run Tryz.prog w = .ok (63, .pointer (some ⟨b, 6, none⟩)) w := fun _ => by kernel_rfl
theorem of_Array (b : Nat) : ∀ w, (method 388 93 (.pointer (some ⟨b, 0, none⟩)) "OpenFodder").run Tryz.prog w = .ok (63, .pointer (some ⟨b, 2, none⟩)) w := fun _ => by kernel_rfl
theorem of_Object (b : Nat) : ∀ w, (method 388 128 (.pointer (some ⟨b, 0, none⟩)) "OpenFodder").run Tryz.prog w = .ok (63, .pointer (some ⟨b, 2, none⟩)) w := fun _ => by kernel_rfl
end Go.Proofs.YtlgajopaokjjaaaGreatFmt
namespace Go.Proofs.YtlgajopaokjjaaaGreatFmt
theorem Ast.root {w : World} {S : Nat → Prop} {t : Tr} {y : TypeId} {b : Nat} (h : Ast w S t y b) : S b := by cases h <;> assumption
theorem Ast.is_var {w : World} {S : Nat → Prop} {t : Tr} {y : TypeId} {b : Nat} (h : Ast w S t y b) : y = 170 ↔ t.k = 7 := by cases h <;> simp [Tr.k]
theorem Ast.is_index {w : World} {S : Nat → Prop} {t : Tr} {y : TypeId} {b : Nat} (h : Ast w S t y b) : y = 88 ↔ (t.k = 15 ∨ t.k = 16) := by cases h <;> simp [Tr.k]
theorem Ast.is_object {w : World} {S : Nat → Prop} {t : Tr} {y : TypeId} {b : Nat} (h : Ast w S t y b) : y = 128 ↔ t.k = 20 := by cases h <;> simp [Tr.k]
theorem Ast.is_binary {w : World} {S : Nat → Prop} {t : Tr} {y : TypeId} {b : Nat} (h : Ast w S t y b) : y = 69 ↔ t.k = 9 := by cases h <;> simp [Tr.k]
theorem Ast.is_parens {w : World} {S : Nat → Prop} {t : Tr} {y : TypeId} {b : Nat} (h : Ast w S t y b) : y = 99 ↔ t.k = 28 := by cases h <;> simp [Tr.k]
theorem Ast.is_string {w : World} {S : Nat → Prop} {t : Tr} {y : TypeId} {b : Nat} (h : Ast w S t y b) : y = 162 ↔ t.k = 4 := by cases h <;> simp [Tr.k]
end Go.Proofs.YtlgajopaokjjaaaGreatFmt
namespace Go.Proofs.YtlgajopaokjjaaaGreatFmt
open Go.ChangeShapes Go.WideShapes Go.ChangeAt Go.RowKit Go.Joins

/-- The first m nodes of a list have been visited. -/
structure Mids (w : World) (g : Nat) (F : Tr → Tr) (l : List Tr) (SS : Nat → Nat → Prop) (ps : Nat → Option Addr) (ns ys bs : Nat → Nat) (m : Nat) (wr : World) (cu : Array Value) (yn bn lo : Nat → Nat) : Prop where
  row : wr.heap[g]? = some (.cells cu 84)
  cells : ∀ k, k < l.length → cu[k * 2]? = some (.iface (yn k) (.pointer (some ⟨bn k, 0, none⟩))) ∧ cu[k * 2 + 1]? = some (.slice (ps k) 0 (ns k))
  rest : ∀ k, m ≤ k → yn k = ys k ∧ bn k = bs k
  lo0 : w.heap.size ≤ lo 0
  mono : ∀ i j, i ≤ j → j ≤ m → lo i ≤ lo j
  top : lo m ≤ wr.heap.size
  done : ∀ k t, k < m → l[k]? = some t → Ast wr (Part w (SS k) (lo k) (lo (k + 1))) (F t) (yn k) (bn k)
  within : Within w wr (fun k => k = g ∨ ∃ i, i < m ∧ SS i k)
theorem Mids.drew {w : World} {g : Nat} {F : Tr → Tr} {l : List Tr} {SS : Nat → Nat → Prop} {ps : Nat → Option Addr} {ns ys bs : Nat → Nat} {m : Nat} {wr : World} {cu : Array Value} {yn bn lo : Nat → Nat} (h : Mids w g F l SS ps ns ys bs m wr cu yn bn lo) : Mids w g F l SS ps ns ys bs m wr.drew cu yn bn lo :=
  ⟨h.row, h.cells, h.rest, h.lo0, h.mono, h.top, fun k t hk ht => (h.done k t hk ht).drew, h.within.drew⟩
theorem mids_start {w : World} {g : Nat} {cur : Array Value} (F : Tr → Tr) {l : List Tr} (SS : Nat → Nat → Prop) {ps : Nat → Option Addr} {ns ys bs : Nat → Nat} (hg : w.heap[g]? = some (.cells cur 84))
    (hr : ∀ i, i < l.length → cur[i * 2]? = some (.iface (ys i) (.pointer (some ⟨bs i, 0, none⟩))) ∧ cur[i * 2 + 1]? = some (.slice (ps i) 0 (ns i))) : Mids w g F l SS ps ns ys bs 0 w cur ys bs (fun _ => w.heap.size) :=
  ⟨hg, hr, fun _ _ => ⟨rfl, rfl⟩, Nat.le_refl _, fun _ _ _ _ => Nat.le_refl _, Nat.le_refl _, fun k t h => absurd h (by omega), Within.refl _ _⟩
theorem curs_put {cur : Array Value} {v : Value} {m : Nat} (hm : m * 2 < cur.size) (k : Nat) : (cur.setIfInBounds (m * 2) v)[k * 2]? = (if k = m then some v else cur[k * 2]?) ∧ (cur.setIfInBounds (m * 2) v)[k * 2 + 1]? = cur[k * 2 + 1]? := by
  constructor
  · by_cases e : k = m
    · subst e; simp [hm]
    · rw [if_neg e, Array.getElem?_setIfInBounds_ne (by omega)]
  · rw [Array.getElem?_setIfInBounds_ne (by omega)]
theorem Mids.next {w wr w3 : World} {g : Nat} {F : Tr → Tr} {l : List Tr} {SS : Nat → Nat → Prop} {ps : Nat → Option Addr} {ns ys bs : Nat → Nat} {m : Nat} {cu : Array Value} {yn bn lo : Nat → Nat} {y' b' : Nat} {t : Tr} (h : Mids w g F l SS ps ns ys bs m wr cu yn bn lo) (ht : l[m]? = some t) (hgw : g < w.heap.size) (hss : ∀ i, i < l.length → ∀ k, SS i k → k ≠ g) (dd : ∀ i j, i < j → j < l.length → ∀ k, SS i k → ¬ SS j k)
    (hrow : w3.heap[g]? = some (.cells (cu.setIfInBounds (m * 2) (.iface y' (.pointer (some ⟨b', 0, none⟩)))) 84)) (hg3 : Within wr w3 (fun k => (SS m k ∧ k < w.heap.size) ∨ k = g)) (ha : Ast w3 (Wide wr (fun k => SS m k ∧ k < w.heap.size)) (F t) y' b') :
    Mids w g F l SS ps ns ys bs (m + 1) w3 (cu.setIfInBounds (m * 2) (.iface y' (.pointer (some ⟨b', 0, none⟩)))) (fun k => if k = m then y' else yn k) (fun k => if k = m then b' else bn k) (fun k => if k ≤ m then lo k else w3.heap.size) := by
  have hml := (List.getElem?_eq_some_iff.1 ht).1
  have hms := (Array.getElem?_eq_some_iff.1 (h.cells m hml).1).1
  have hz := hg3.size
  have hzw := h.within.size
  have ht0 := h.top
  have hl0 := h.lo0
  refine ⟨hrow, fun k hk => ?_, fun k hk => ?_, ?_, fun i j hij hj => ?_, ?_, fun k t' hk hkt => ?_, ?_⟩
  · obtain ⟨c1, c2⟩ := curs_put (cur := cu) (v := .iface y' (.pointer (some ⟨b', 0, none⟩))) hms k
    rw [c1, c2]
    obtain ⟨d1, d2⟩ := h.cells k hk
    refine ⟨?_, d2⟩
    by_cases e : k = m
    · subst e; simp
    · simp only [if_neg e]; exact d1
  · have e : k ≠ m := by omega
    simp only [if_neg e]
    exact h.rest k (by omega)
  · simp only [if_pos (Nat.zero_le m)]; exact h.lo0
  · by_cases h1 : j ≤ m
    · rw [if_pos h1, if_pos (by omega)]
      exact h.mono i j hij h1
    · rw [if_neg h1]
      split
      · have := h.mono i m (by omega) (Nat.le_refl _)
        omega
      · exact Nat.le_refl _
  · rw [if_neg (by omega)]; exact Nat.le_refl _
  · by_cases e : k = m
    · subst e
      rw [ht] at hkt
      injection hkt with hkt
      subst hkt
      have := ha.mono (T := Part w (SS k) (lo k) w3.heap.size) (fun x hx hl => by
        rcases hx with h | h
        · exact .inl ⟨by omega, hl⟩
        · exact .inr h.1)
      simpa [show ¬ k + 1 ≤ k by omega] using this
    · have hkm : k < m := by omega
      have h3 := h.done k t' hkm hkt
      have h4 : Ast w3 (Part w (SS k) (lo k) (lo (k + 1))) (F t') (yn k) (bn k) := h3.keep (fun _ h _ => h) (fun x hx hl => hg3.block x hl (fun e2 => by
        have h6 := h.mono 0 k (Nat.zero_le _) (by omega)
        rcases e2 with e2 | e2
        · rcases hx with h | h
          · omega
          · exact dd k m hkm hml x h.1 e2.1
        · subst e2
          rcases hx with h | h
          · omega
          · exact hss k (by omega) _ h.1 rfl))
      simpa [e, show k ≤ m by omega, show k + 1 ≤ m by omega] using h4
  · exact (h.within.mono (fun k hk _ => hk.imp id (fun ⟨i, hi, h⟩ => ⟨i, Nat.lt_succ_of_lt hi, h⟩))).trans hg3 (fun k hk _ => by
      rcases hk with hk | hk
      · exact .inr ⟨m, Nat.lt_succ_self m, hk.1⟩
      · exact .inl hk)
/-- The next node as it lies there before it is visited. -/
theorem Mids.at_ {w wr : World} {g : Nat} {F : Tr → Tr} {l : List Tr} {SS : Nat → Nat → Prop} {ps : Nat → Option Addr} {ns ys bs : Nat → Nat} {m : Nat} {cu : Array Value} {yn bn lo : Nat → Nat} {t : Tr} (h : Mids w g F l SS ps ns ys bs m wr cu yn bn lo) (ht : l[m]? = some t) (hss : ∀ i, i < l.length → ∀ k, SS i k → k ≠ g) (dd : ∀ i j, i < j → j < l.length → ∀ k, SS i k → ¬ SS j k)
    (aa : ∀ i t, l[i]? = some t → Ast w (SS i) t (ys i) (bs i)) : Ast wr (fun k => SS m k ∧ k < w.heap.size) t (ys m) (bs m) ∧ cu[m * 2]? = some (.iface (ys m) (.pointer (some ⟨bs m, 0, none⟩))) ∧ cu[m * 2 + 1]? = some (.slice (ps m) 0 (ns m)) := by
  have hml := (List.getElem?_eq_some_iff.1 ht).1
  obtain ⟨e1, e2⟩ := h.rest m (Nat.le_refl _)
  refine ⟨(aa m t ht).within h.within (fun k hk hx => ?_), e1 ▸ e2 ▸ (h.cells m hml).1, (h.cells m hml).2⟩
  rcases hx with rfl | ⟨i, hi, hx⟩
  · exact hss m hml _ hk rfl
  · exact dd i m hi hml k hx hk
/-- The array, when all its nodes have been visited. -/
theorem array_end {w w' : World} {S : Nat → Prop} {SS : Nat → Nat → Prop} {b g cap : Nat} {cu : Array Value} {p0 p1 p2 : Option Addr} {n0 n1 n2 : Nat} {tc : Bool} {F : Tr → Tr} {l : List Tr} {ys bs : Nat → Nat} {ps : Nat → Option Addr} {ns : Nat → Nat} {yn bn lo : Nat → Nat} (hS : S b) (hSg : S g) (hgb : g ≠ b) (hgl : g < w.heap.size) (hcap : l.length ≤ cap)
    (ss : ∀ i, i < l.length → ∀ k, SS i k → S k ∧ k ≠ b ∧ k ≠ g) (dd : ∀ i j, i < j → j < l.length → ∀ k, SS i k → ¬ SS j k)
    (hb : w.heap[b]? = some (.cells #[.slice (some ⟨g, 0, none⟩) l.length cap, .slice p2 0 n2, .slice p0 0 n0, .pointer none, .slice p1 0 n1, .pointer none, .string ByteArray.empty, .int .i64 0, .int .i64 0, .int .i64 0, .int .i64 0, .bool tc] 95))
    (hm : Mids w g F l SS ps ns ys bs l.length w' cu yn bn lo) : Within w w' S ∧ Ast w' (Wide w S) (.mk 18 ByteArray.empty 0 false (l.map F)) 93 b := by
  have zb := heap_lt hb
  have hlo0 := hm.lo0
  have lo_ge : ∀ i, i ≤ l.length → w.heap.size ≤ lo i := fun i hi => by have := hm.mono 0 i (Nat.zero_le _) hi; omega
  have wi : Within w w' S := hm.within.mono (fun k hk _ => by
    rcases hk with hk | ⟨i, hi, hk⟩
    · exact hk ▸ hSg
    · exact (ss i hi k hk).1)
  have hb' := (hm.within.block b zb (fun hx => by
    rcases hx with hx | ⟨i, hi, hx⟩
    · exact hgb hx.symm
    · exact (ss i hi b hx).2.1 rfl)).trans hb
  have hlen : (l.map F).length = l.length := List.length_map ..
  rw [← hlen] at hb'
  refine ⟨wi, .array (SS := fun i => Part w (SS i) (lo i) (lo (i + 1))) b g cu p0 p1 p2 n0 n1 n2 cap tc (some ⟨g, 0, none⟩) (ys := yn) (bs := bn) (ps := ps) (ns := ns) (.inr ⟨hS, zb⟩) (fun _ => ⟨rfl, .inr ⟨hSg, hgl⟩, hgb, hm.row⟩) (by rw [hlen]; exact hcap) (fun i hi => hm.cells i (by rwa [hlen] at hi)) (fun i hi k hk => ?_) (fun i j hij hj => ?_) hb' (fun i t ht => ?_)⟩
  · rw [hlen] at hi
    have := lo_ge i (by omega)
    rcases hk with hk | hk
    · exact ⟨.inl (by omega), by omega, by omega⟩
    · obtain ⟨s1, s2, s3⟩ := ss i hi k hk.1
      exact ⟨.inr ⟨s1, hk.2⟩, s2, s3⟩
  · rw [hlen] at hj
    exact part_apart (dd i j hij hj) (hm.mono (i + 1) j (by omega) (by omega)) (lo_ge _ (by omega)) (lo_ge _ (by omega))
  · rw [List.getElem?_map] at ht
    obtain ⟨s, hs, rfl⟩ := Option.map_eq_some_iff.1 ht
    exact hm.done i s (List.getElem?_eq_some_iff.1 hs).1 hs
/-- The call, when all its nodes have been visited. -/
theorem apply_end {w w1 w' : World} {S S1 : Nat → Prop} {SS : Nat → Nat → Prop} {b g cap : Nat} {cu : Array Value} {p0 p1 p2 p3 p4 p5 : Option Addr} {n0 n1 n2 n3 n4 n5 : Nat} {tc : Bool} {F : Tr → Tr} {t1 : Tr} {y1 b1 : Nat} {l : List Tr} {ys bs : Nat → Nat} {ps : Nat → Option Addr} {ns : Nat → Nat} {yn bn lo : Nat → Nat} (hS : S b) (hSg : S g) (hgb : g ≠ b) (zb : b < w.heap.size) (hgl : g < w.heap.size) (hcap : l.length ≤ cap)
    (s1 : ∀ k, S1 k → S k ∧ k ≠ b ∧ k ≠ g) (ss : ∀ i, i < l.length → ∀ k, SS i k → S k ∧ k ≠ b ∧ k ≠ g ∧ ¬ S1 k) (dd : ∀ i j, i < j → j < l.length → ∀ k, SS i k → ¬ SS j k)
    (hb : w1.heap[b]? = some (.cells #[.iface y1 (.pointer (some ⟨b1, 0, none⟩)), .slice p2 0 n2, .slice (some ⟨g, 0, none⟩) l.length cap, .slice p3 0 n3, .slice p4 0 n4, .slice p5 0 n5, .slice p0 0 n0, .pointer none, .slice p1 0 n1, .pointer none, .string ByteArray.empty, .int .i64 0, .int .i64 0, .int .i64 0, .int .i64 0, .bool tc, .bool false] 82))
    (hw1 : Within w w1 (fun k => S1 k ∨ k = b)) (ha : Ast w1 (Part w S1 w.heap.size w1.heap.size) t1 y1 b1) (hm : Mids w1 g F l (fun i k => SS i k ∧ k < w.heap.size) ps ns ys bs l.length w' cu yn bn lo) :
    Within w w' S ∧ Ast w' (Wide w S) (.mk 13 ByteArray.empty 0 false (t1 :: (l.map F).map fun t => .mk 32 ByteArray.empty 0 false [t])) 76 b := by
  have z1 := hw1.size
  have hlo0 := hm.lo0
  have lo_ge : ∀ i, i ≤ l.length → w1.heap.size ≤ lo i := fun i hi => by have := hm.mono 0 i (Nat.zero_le _) hi; omega
  have wi : Within w w' S := (hw1.mono (T := S) (fun k hk _ => hk.elim (fun hk => (s1 k hk).1) (fun hk => hk ▸ hS))).trans hm.within (fun k hk _ => by
    rcases hk with hk | ⟨i, hi, hk⟩
    · exact hk ▸ hSg
    · exact (ss i hi k hk.1).1)
  have hb' := (hm.within.block b (heap_lt hb) (fun hx => by
    rcases hx with hx | ⟨i, hi, hx⟩
    · exact hgb hx.symm
    · exact (ss i hi b hx.1).2.1 rfl)).trans hb
  have hlen : (l.map F).length = l.length := List.length_map ..
  rw [← hlen] at hb'
  refine ⟨wi, .apply (S1 := Part w S1 w.heap.size w1.heap.size) (SS := fun i => Part w (SS i) (lo i) (lo (i + 1))) b g cu p0 p1 p2 p3 p4 p5 n0 n1 n2 n3 n4 n5 cap tc (some ⟨g, 0, none⟩) (ys := yn) (bs := bn) (ps := ps) (ns := ns) (.inr ⟨hS, zb⟩) (fun k hk => ?_) (fun _ => ⟨rfl, .inr ⟨hSg, hgl⟩, hgb, hm.row⟩) (by rw [hlen]; exact hcap) (fun i hi => hm.cells i (by rwa [hlen] at hi)) (fun i hi k hk => ?_) (fun i j hij hj => ?_) hb' ?_ (fun i t ht => ?_)⟩
  · rcases hk with hk | hk
    · exact ⟨.inl hk.1, by omega, fun _ => by omega⟩
    · obtain ⟨q1, q2, q3⟩ := s1 k hk.1
      exact ⟨.inr ⟨q1, hk.2⟩, q2, fun _ => q3⟩
  · rw [hlen] at hi
    have := lo_ge i (by omega)
    have ap : ¬ Part w S1 w.heap.size w1.heap.size k := fun hx => part_apart (S1 := S1) (S2 := SS i) (fun k h h' => (ss i hi k h').2.2.2 h) this (Nat.le_refl _) (by omega) k hx hk
    rcases hk with hk | hk
    · exact ⟨.inl (by omega), by omega, by omega, ap⟩
    · obtain ⟨q1, q2, q3, _⟩ := ss i hi k hk.1
      exact ⟨.inr ⟨q1, hk.2⟩, q2, q3, ap⟩
  · rw [hlen] at hj
    have := lo_ge i (by omega)
    have := lo_ge j (by omega)
    exact part_apart (dd i j hij hj) (hm.mono (i + 1) j (by omega) (by omega)) (by omega) (by omega)
  · exact part_far ha hm.within (fun k hk => by
      rcases hk with hk | ⟨i, hi, hk⟩
      · exact hk ▸ ⟨hgl, fun h => (s1 g h).2.2 rfl⟩
      · exact ⟨hk.2, (ss i hi k hk.1).2.2.2⟩) (Nat.le_refl _)
  · rw [List.getElem?_map] at ht
    obtain ⟨s, hs, rfl⟩ := Option.map_eq_some_iff.1 ht
    exact (hm.done i s (List.getElem?_eq_some_iff.1 hs).1 hs).mono (fun x hx hl => by
      rcases hx with h | h
      · exact .inl h
      · exact .inr h.1)
end Go.Proofs.YtlgajopaokjjaaaGreatFmt
namespace Go.Proofs.YtlgajopaokjjaaaGreatFmt
open Go.ChangeShapes Go.WideShapes Go.ChangeAt Go.RowKit Go.Joins

/-- A field's cells in a row of fields. -/
def Fld.Row (F : Fld) (s : Tr) (cur : Array Value) (off : Nat) : Prop :=
  (∃ c t, s = .mk 37 s.tx s.op s.fl [t] ∧ F.id = some c ∧ ∀ j v, (F.rowId s.op s.fl c)[j]? = some v → cur[off + j]? = some v) ∨
  (∃ t1 t2, s = .mk 39 ByteArray.empty s.op s.fl [t1, t2] ∧ F.id = none ∧ ∀ j v, (F.rowStr s.op s.fl)[j]? = some v → cur[off + j]? = some v)
theorem row_set {l : List Value} {cur : Array Value} {o i : Nat} {x : Value} (h : ∀ j v, l[j]? = some v → cur[o + j]? = some v) (hi : i < l.length) : ∀ j v, (l.set i x)[j]? = some v → (cur.setIfInBounds (o + i) x)[o + j]? = some v := fun j v hj => by
  by_cases e : j = i
  · subst e
    have h1 : l[j]? = some l[j] := List.getElem?_eq_getElem hi
    have h2 := (Array.getElem?_eq_some_iff.1 (h j _ h1)).1
    simp [hi] at hj
    subst hj
    simp [h2]
  · rw [List.getElem?_set_ne (Ne.symm e)] at hj
    rw [Array.getElem?_setIfInBounds_ne (by omega)]
    exact h j v hj
theorem Fld.Row.keep {F : Fld} {s : Tr} {cur cur' : Array Value} {off : Nat} (h : F.Row s cur off) (hk : ∀ j, j < 18 → cur'[off + j]? = cur[off + j]?) : F.Row s cur' off := by
  rcases h with ⟨c, t, h1, h2, hc⟩ | ⟨t1, t2, h1, h2, hc⟩
  · refine .inl ⟨c, t, h1, h2, fun j v hj => ?_⟩
    have : j < 18 := (List.getElem?_eq_some_iff.1 hj).1
    rw [hk j this]
    exact hc j v hj
  · refine .inr ⟨t1, t2, h1, h2, fun j v hj => ?_⟩
    have : j < 18 := (List.getElem?_eq_some_iff.1 hj).1
    rw [hk j this]
    exact hc j v hj
theorem Fld.at_row {w : World} {S : Nat → Prop} {b g : Nat} {cur : Array Value} {off : Nat} {F : Fld} {s : Tr} (h : F.at_ w S b g cur off s) : F.Row s cur off := by
  rcases h with ⟨c, t, e, hi, _, _, _, _, hr⟩ | ⟨t1, t2, e, hi, hr⟩
  · exact .inl ⟨c, t, e, hi, hr⟩
  · exact .inr ⟨t1, t2, e, hi, hr⟩
/-- The block of a field's name. -/
abbrev nameAt (w : World) (c : Nat) (tx : ByteArray) : Prop := w.heap[c]? = some (.cells #[.string tx] 92)
/-- What a visit of a field leaves. -/
def FldDone (w : World) (S1 S2 : Nat → Prop) (g o : Nat) (cur : Array Value) (F : Fld) (s' : Tr) (e : Ending) (w' : World) : Prop :=
  e = .returned (.tuple #[]) ∧ ∃ (F' : Fld) (cur' : Array Value) (m1 m2 : Nat), F'.Row s' cur' o ∧ (∀ j, j < o ∨ o + 18 ≤ j → cur'[j]? = cur[j]?) ∧ w'.heap[g]? = some (.cells cur' 155) ∧ Within w w' (fun k => (S1 k ∨ S2 k) ∨ k = g) ∧
    w.heap.size ≤ m1 ∧ m1 ≤ m2 ∧ m2 ≤ w'.heap.size ∧ (∀ c, F'.id = some c → (F.id = some c ∧ (∀ tx, nameAt w c tx → tx = s'.tx)) ∨ (w.heap.size ≤ c ∧ c < m1 ∧ nameAt w' c s'.tx)) ∧
    (∀ kk op fl t1 t2, s' = .mk kk ByteArray.empty op fl [t1, t2] → Ast w' (fun k => (m1 ≤ k ∧ k < m2) ∨ (S1 k ∧ k < w.heap.size)) t1 F'.y1 F'.b1) ∧ (∀ u, s'.subs.getLast? = some u → Ast w' (fun k => (m2 ≤ k ∧ k < w'.heap.size) ∨ (S2 k ∧ k < w.heap.size)) u F'.y2 F'.b2)
theorem FldDone.undrew {w : World} {S1 S2 : Nat → Prop} {g o : Nat} {cur : Array Value} {F : Fld} {s' : Tr} {e : Ending} {w' : World} (h : FldDone w.drew S1 S2 g o cur F s' e w') : FldDone w S1 S2 g o cur F s' e w' := by
  obtain ⟨he, F', cur', m1, m2, h1, h2, h3, h4, h5⟩ := h
  exact ⟨he, F', cur', m1, m2, h1, h2, h3, h4.undrew, h5⟩
theorem FldDone.drew {w : World} {S1 S2 : Nat → Prop} {g o : Nat} {cur : Array Value} {F : Fld} {s' : Tr} {e : Ending} {w' : World} (h : FldDone w S1 S2 g o cur F s' e w') : FldDone w S1 S2 g o cur F s' e w'.drew := by
  obtain ⟨he, F', cur', m1, m2, h1, h2, h3, h4, h5, h6, h7, h8, h9, h10⟩ := h
  exact ⟨he, F', cur', m1, m2, h1, h2, h3, h4.drew, h5, h6, h7, h8, fun kk op fl t1 t2 e => (h9 kk op fl t1 t2 e).drew, fun u hu => (h10 u hu).drew⟩
/-- The first m fields have been visited. -/
structure FldsAt (w : World) (G : Tr → Tr) (l : List Tr) (F : Nat → Fld) (S1 S2 : Nat → Nat → Prop) (g m : Nat) (wr : World) (cu : Array Value) (F' : Nat → Fld) (lo : Nat → Nat) : Prop where
  row : wr.heap[g]? = some (.cells cu 155)
  done : ∀ k s, l[k]? = some s → k < m → (F' k).Row (G s) cu (k * 18) ∧ ∀ c, (F' k).id = some c → ((F k).id = some c ∧ (∀ tx, nameAt w c tx → tx = (G s).tx)) ∨ (lo (3 * k) ≤ c ∧ c < lo (3 * k + 1) ∧ nameAt wr c (G s).tx)
  rest : ∀ k s, l[k]? = some s → m ≤ k → (F k).Row s cu (k * 18)
  lo0 : w.heap.size ≤ lo 0
  mono : ∀ i j, i ≤ j → j ≤ 3 * m → lo i ≤ lo j
  top : lo (3 * m) ≤ wr.heap.size
  part1 : ∀ k s, k < m → l[k]? = some s → ∀ kk op fl t1 t2, G s = .mk kk ByteArray.empty op fl [t1, t2] → Ast wr (Part w (S1 k) (lo (3 * k + 1)) (lo (3 * k + 2))) t1 (F' k).y1 (F' k).b1
  part2 : ∀ k s, k < m → l[k]? = some s → ∀ u, (G s).subs.getLast? = some u → Ast wr (Part w (S2 k) (lo (3 * k + 2)) (lo (3 * k + 3))) u (F' k).y2 (F' k).b2
  within : Within w wr (fun k => k = g ∨ ∃ i, i < m ∧ (S1 i k ∨ S2 i k))
theorem flds_start {w : World} {G : Tr → Tr} {l : List Tr} {F : Nat → Fld} {S1 S2 : Nat → Nat → Prop} {g : Nat} {cur : Array Value} (hg : w.heap[g]? = some (.cells cur 155)) (hr : ∀ i s, l[i]? = some s → (F i).Row s cur (i * 18)) : FldsAt w G l F S1 S2 g 0 w cur F (fun _ => w.heap.size) :=
  ⟨hg, fun _ _ _ h => absurd h (by omega), fun k s hk _ => hr k s hk, Nat.le_refl _, fun _ _ _ _ => Nat.le_refl _, Nat.le_refl _, fun _ _ h => absurd h (by omega), fun _ _ h => absurd h (by omega), Within.refl _ _⟩
theorem FldsAt.drew {w : World} {G : Tr → Tr} {l : List Tr} {F : Nat → Fld} {S1 S2 : Nat → Nat → Prop} {g m : Nat} {wr : World} {cu : Array Value} {F' : Nat → Fld} {lo : Nat → Nat} (h : FldsAt w G l F S1 S2 g m wr cu F' lo) : FldsAt w G l F S1 S2 g m wr.drew cu F' lo :=
  ⟨h.row, h.done, h.rest, h.lo0, h.mono, h.top, fun k s hk hs kk op fl t1 t2 e => (h.part1 k s hk hs kk op fl t1 t2 e).drew, fun k s hk hs u hu => (h.part2 k s hk hs u hu).drew, h.within.drew⟩
theorem FldsAt.undrew {w : World} {G : Tr → Tr} {l : List Tr} {F : Nat → Fld} {S1 S2 : Nat → Nat → Prop} {g m : Nat} {wr : World} {cu : Array Value} {F' : Nat → Fld} {lo : Nat → Nat} (h : FldsAt w.drew G l F S1 S2 g m wr cu F' lo) : FldsAt w G l F S1 S2 g m wr cu F' lo :=
  ⟨h.row, h.done, h.rest, h.lo0, h.mono, h.top, h.part1, h.part2, h.within.undrew⟩
theorem FldsAt.next {w wr w3 : World} {G : Tr → Tr} {l : List Tr} {F : Nat → Fld} {S1 S2 : Nat → Nat → Prop} {g m : Nat} {cu : Array Value} {F' : Nat → Fld} {lo : Nat → Nat} {s : Tr} {e : Ending} (h : FldsAt w G l F S1 S2 g m wr cu F' lo) (hs : l[m]? = some s) (hgw : g < w.heap.size)
    (hss : ∀ i, i < l.length → ∀ k, S1 i k ∨ S2 i k → k ≠ g) (dd : ∀ i j, i < j → j < l.length → ∀ k, S1 i k ∨ S2 i k → ¬ (S1 j k ∨ S2 j k)) (hid : ∀ c, (F m).id = some c → c < w.heap.size ∧ c ≠ g ∧ ∀ i, i < l.length → ¬ (S1 i c ∨ S2 i c))
    (hf : FldDone wr (fun k => S1 m k ∧ k < w.heap.size) (fun k => S2 m k ∧ k < w.heap.size) g (m * 18) cu (F m) (G s) e w3) : ∃ cu' F'' lo', FldsAt w G l F S1 S2 g (m + 1) w3 cu' F'' lo' := by
  obtain ⟨_, Fn, cu', m1, m2, hR, hkeep, hrow3, hg3, hm0, hm1, hm2, hI, hA1, hA2⟩ := hf
  have hml := (List.getElem?_eq_some_iff.1 hs).1
  have h0 := h.mono 0 (3 * m) (Nat.zero_le _) (Nat.le_refl _)
  have htop := h.top
  have hlo0 := h.lo0
  have hzz := h.within.size
  refine ⟨cu', fun k => if k = m then Fn else F' k, fun k => if k ≤ 3 * m then lo k else if k = 3 * m + 1 then m1 else if k = 3 * m + 2 then m2 else w3.heap.size, hrow3, fun k s' hk hkm => ?_, fun k s' hk hkm => ?_, ?_, fun i j hij hj => ?_, ?_, fun k s' hkm hk kk op fl t1 t2 e2 => ?_, fun k s' hkm hk u hu => ?_, ?_⟩
  · by_cases e1 : k = m
    · subst e1
      rw [hs] at hk
      injection hk with hk
      subst hk
      simp only [if_true]
      refine ⟨hR, fun c hc => ?_⟩
      rcases hI c hc with ⟨h1, h2⟩ | ⟨h1, h2, h3⟩
      · refine .inl ⟨h1, fun tx htx => h2 tx ?_⟩
        obtain ⟨i1, i2, i3⟩ := hid c h1
        exact (h.within.block c i1 (fun hx => hx.elim i2 (fun ⟨i, hi, hx⟩ => i3 i (by omega) hx))).trans htx
      · refine .inr ⟨by simp only [Nat.le_refl, if_true]; omega, ?_, h3⟩
        simpa [show ¬ 3 * k + 1 ≤ 3 * k by omega] using h2
    · simp only [if_neg e1]
      obtain ⟨h1, h2⟩ := h.done k s' hk (by omega)
      refine ⟨h1.keep fun j hj => hkeep _ (by omega), fun c hc => ?_⟩
      rcases h2 c hc with h2 | ⟨h2, h3, h4⟩
      · exact .inl h2
      · refine .inr ⟨by simpa [show 3 * k ≤ 3 * m by omega] using h2, by simpa [show 3 * k + 1 ≤ 3 * m by omega] using h3, ?_⟩
        refine (hg3.block c (heap_lt h4) (fun hx => ?_)).trans h4
        have := h.mono 0 (3 * k) (Nat.zero_le _) (by omega)
        rcases hx with (hx | hx) | hx
        · have := hx.2; omega
        · have := hx.2; omega
        · omega
  · exact (h.rest k s' hk (by omega)).keep fun j hj => hkeep _ (by omega)
  · simp only [Nat.zero_le, if_true]; exact hlo0
  · by_cases hj1 : j ≤ 3 * m
    · rw [if_pos hj1, if_pos (by omega)]
      exact h.mono i j hij hj1
    · rw [if_neg hj1]
      by_cases hi1 : i ≤ 3 * m
      · rw [if_pos hi1]
        have := h.mono i (3 * m) hi1 (Nat.le_refl _)
        split
        · omega
        · split <;> omega
      · rw [if_neg hi1]
        by_cases hi2 : i = 3 * m + 1
        · rw [if_pos hi2]
          split
          · exact Nat.le_refl _
          · split <;> omega
        · rw [if_neg hi2]
          split <;> split <;> (try split) <;> omega
  · rw [if_neg (by omega), if_neg (by omega), if_neg (by omega)]; exact Nat.le_refl _
  all_goals
    have far : ∀ {P : Nat → Prop} {a b : Nat} {t : Tr} {y bb : Nat}, a ≤ 3 * m → (∀ k, P k → ¬ (S1 m k ∨ S2 m k) ∧ k ≠ g) → Ast wr (Part w P (lo a) b) t y bb → Ast w3 (Part w P (lo a) b) t y bb := fun {P a b t y bb} ha hP hA => hA.keep (fun _ h _ => h) (fun x hx hl => hg3.block x hl (fun e2 => by
        have h5 := h.mono 0 a (Nat.zero_le _) ha
        rcases hx with hx | hx
        · rcases e2 with (e2 | e2) | e2
          · have := e2.2; omega
          · have := e2.2; omega
          · omega
        · obtain ⟨p1, p2⟩ := hP x hx.1
          rcases e2 with (e2 | e2) | e2
          · exact p1 (.inl e2.1)
          · exact p1 (.inr e2.1)
          · exact p2 e2))
  · by_cases e1 : k = m
    · subst e1
      rw [hs] at hk
      injection hk with hk
      subst hk
      simp only [if_true]
      have := (hA1 kk op fl t1 t2 e2).mono (T := Part w (S1 k) m1 m2) (fun x hx hl => by
        rcases hx with h | h
        · exact .inl h
        · exact .inr h.1)
      simpa [show ¬ 3 * k + 1 ≤ 3 * k by omega, show ¬ 3 * k + 2 ≤ 3 * k by omega] using this
    · simp only [if_neg e1]
      have := far (by omega) (fun x hx => ⟨dd k m (by omega) hml x (.inl hx), hss k (by omega) x (.inl hx)⟩) (h.part1 k s' (by omega) hk kk op fl t1 t2 e2)
      simpa [show 3 * k + 1 ≤ 3 * m by omega, show 3 * k + 2 ≤ 3 * m by omega] using this
  · by_cases e1 : k = m
    · subst e1
      rw [hs] at hk
      injection hk with hk
      subst hk
      simp only [if_true]
      have := (hA2 u hu).mono (T := Part w (S2 k) m2 w3.heap.size) (fun x hx hl => by
        rcases hx with h | h
        · exact .inl h
        · exact .inr h.1)
      simpa [show ¬ 3 * k + 2 ≤ 3 * k by omega, show ¬ 3 * k + 3 ≤ 3 * k by omega] using this
    · simp only [if_neg e1]
      have := far (by omega) (fun x hx => ⟨dd k m (by omega) hml x (.inr hx), hss k (by omega) x (.inr hx)⟩) (h.part2 k s' (by omega) hk u hu)
      simpa [show 3 * k + 2 ≤ 3 * m by omega, show 3 * k + 3 ≤ 3 * m by omega] using this
  · exact (h.within.mono (fun k hk _ => hk.imp id (fun ⟨i, hi, h⟩ => ⟨i, Nat.lt_succ_of_lt hi, h⟩))).trans hg3 (fun k hk _ => by
      rcases hk with (hk | hk) | hk
      · exact .inr ⟨m, Nat.lt_succ_self m, .inl hk.1⟩
      · exact .inr ⟨m, Nat.lt_succ_self m, .inr hk.1⟩
      · exact .inl hk)
/-- The object, when all its fields have been visited. -/
theorem flds_end {w w' : World} {S : Nat → Prop} {S1 S2 : Nat → Nat → Prop} {b g cap : Nat} {cur cu : Array Value} {p0 p1 p2 : Option Addr} {n0 n1 n2 : Nat} {tc : Bool} {l : List Tr} {F F' : Nat → Fld} {lo : Nat → Nat} {G : Tr → Tr} (hS : S b) (hSg : S g) (hgb : g ≠ b) (hcap : l.length ≤ cap)
    (hr : ∀ i t, l[i]? = some t → (F i).at_ w S b g cur (i * 18) t)
    (ss : ∀ i, i < l.length → ∀ k, S1 i k ∨ S2 i k → S k ∧ k ≠ b ∧ k ≠ g ∧ ∀ j, j < l.length → (F j).id ≠ some k) (d12 : ∀ i, i < l.length → ∀ k, S1 i k → ¬ S2 i k) (dd : ∀ i j, i < j → j < l.length → ∀ k, S1 i k ∨ S2 i k → ¬ (S1 j k ∨ S2 j k)) (di : ∀ i j, i < j → j < l.length → ∀ k, (F i).id = some k → (F j).id ≠ some k)
    (hb : w.heap[b]? = some (.cells #[.slice (some ⟨g, 0, none⟩) l.length cap, .slice p2 0 n2, .slice p0 0 n0, .pointer none, .slice p1 0 n1, .pointer none, .string ByteArray.empty, .int .i64 0, .int .i64 0, .int .i64 0, .int .i64 0, .bool tc] 133))
    (hgl : g < w.heap.size) (hf : FldsAt w G l F S1 S2 g l.length w' cu F' lo) : Within w w' S ∧ Ast w' (Wide w S) (.mk 20 ByteArray.empty 0 false (l.map G)) 128 b := by
  have zb := heap_lt hb
  have hlo0 := hf.lo0
  have lo_ge : ∀ i, i ≤ 3 * l.length → w.heap.size ≤ lo i := fun i hi => by have := hf.mono 0 i (Nat.zero_le _) hi; omega
  -- a name's block
  have name : ∀ i s, l[i]? = some s → ∀ c, (F' i).id = some c → (S c ∧ c < w.heap.size ∧ (F i).id = some c ∧ c ≠ b ∧ c ≠ g ∧ nameAt w' c (G s).tx) ∨ (lo (3 * i) ≤ c ∧ c < lo (3 * i + 1) ∧ nameAt w' c (G s).tx) := fun i s hs c hc => by
    have hi := (List.getElem?_eq_some_iff.1 hs).1
    rcases (hf.done i s hs hi).2 c hc with ⟨h1, h2⟩ | h1
    · left
      rcases hr i s hs with ⟨c', t, _, e, hSc, hcb, hcg, hh, _⟩ | ⟨_, _, _, e, _⟩
      · rw [h1] at e
        injection e with e
        subst e
        have := h2 _ hh
        refine ⟨hSc, heap_lt hh, h1, hcb, hcg, ?_⟩
        rw [← this]
        exact (hf.within.block c (heap_lt hh) (fun hx => by
          rcases hx with hx | ⟨j, hj, hx⟩
          · exact hcg hx
          · exact (ss j hj c hx).2.2.2 i hi h1)).trans hh
      · rw [h1] at e; cases e
    · exact .inr h1
  have wi : Within w w' S := hf.within.mono (fun k hk _ => by
    rcases hk with hk | ⟨i, hi, hk⟩
    · exact hk ▸ hSg
    · exact (ss i hi k hk).1)
  have hb' := (hf.within.block b zb (fun hx => by
    rcases hx with hx | ⟨i, hi, hx⟩
    · exact hgb hx.symm
    · exact (ss i hi b hx).2.1 rfl)).trans hb
  refine ⟨wi, ?_⟩
  have hlen : (l.map G).length = l.length := List.length_map ..
  rw [← hlen] at hb'
  have get : ∀ {i t}, (l.map G)[i]? = some t → ∃ s, l[i]? = some s ∧ i < l.length ∧ t = G s := fun {i t} h => by
    rw [List.getElem?_map] at h
    obtain ⟨s, hs, rfl⟩ := Option.map_eq_some_iff.1 h
    exact ⟨s, hs, (List.getElem?_eq_some_iff.1 hs).1, rfl⟩
  have stp : ∀ i, i < l.length → lo (3 * i) ≤ lo (3 * i + 1) ∧ lo (3 * i + 1) ≤ lo (3 * i + 2) ∧ lo (3 * i + 2) ≤ lo (3 * i + 3) := fun i hi => ⟨hf.mono _ _ (by omega) (by omega), hf.mono _ _ (by omega) (by omega), hf.mono _ _ (by omega) (by omega)⟩
  refine .object (S1 := fun i => Part w (S1 i) (lo (3 * i + 1)) (lo (3 * i + 2))) (S2 := fun i => Part w (S2 i) (lo (3 * i + 2)) (lo (3 * i + 3))) b g cu p0 p1 p2 n0 n1 n2 cap tc (some ⟨g, 0, none⟩) (F := F') (.inr ⟨hS, zb⟩) (fun _ => ⟨rfl, .inr ⟨hSg, hgl⟩, hgb, hf.row⟩) (by rw [hlen]; exact hcap) (fun i t ht => ?_) (fun i hi k hk => ?_) (fun i hi => ?_) (fun i j hij hj k hk hk' => ?_) (fun i j hij hj k hk hk' => ?_) hb' (fun i k op fl t1 t2 ht => ?_) (fun i t u ht hu => ?_)
  · obtain ⟨s, hs, hi, rfl⟩ := get ht
    rcases (hf.done i s hs hi).1 with ⟨c, t, h1, h2, h3⟩ | h1
    · rcases name i s hs c h2 with ⟨n1, n2, _, n3, n4, n5⟩ | ⟨n1, n2, n3⟩
      · exact .inl ⟨c, t, h1, h2, .inr ⟨n1, n2⟩, n3, n4, n5, h3⟩
      · have := lo_ge (3 * i) (by omega)
        exact .inl ⟨c, t, h1, h2, .inl (by omega), by omega, by omega, n3, h3⟩
    · exact .inr h1
  · rw [hlen] at hi
    have l1 := lo_ge (3 * i + 1) (by omega)
    have l2 := lo_ge (3 * i + 2) (by omega)
    obtain ⟨t1, t2, t3⟩ := stp i hi
    have idn : ∀ j, j < (l.map G).length → (F' j).id ≠ some k := fun j hj e => by
      rw [hlen] at hj
      obtain ⟨s, hs⟩ : ∃ s, l[j]? = some s := ⟨_, List.getElem?_eq_getElem hj⟩
      have := lo_ge (3 * j) (by omega)
      obtain ⟨u1, u2, u3⟩ := stp j hj
      rcases name j s hs k e with ⟨_, n2, n3, _, _, _⟩ | ⟨n1, n2, _⟩
      · rcases hk with (hk | hk) | (hk | hk)
        · omega
        · exact (ss i hi k (.inl hk.1)).2.2.2 j hj n3
        · omega
        · exact (ss i hi k (.inr hk.1)).2.2.2 j hj n3
      · have key : ∀ lo' hi', (lo' = lo (3 * i + 1) ∧ hi' = lo (3 * i + 2)) ∨ (lo' = lo (3 * i + 2) ∧ hi' = lo (3 * i + 3)) → lo' ≤ k → k < hi' → False := fun lo' hi' hh a1 a2 => by
          rcases Nat.lt_trichotomy i j with hij | hij | hij
          · have := hf.mono (3 * i + 3) (3 * j) (by omega) (by omega)
            rcases hh with ⟨rfl, rfl⟩ | ⟨rfl, rfl⟩ <;> omega
          · subst hij
            rcases hh with ⟨rfl, rfl⟩ | ⟨rfl, rfl⟩ <;> omega
          · have := hf.mono (3 * j + 1) (3 * i) (by omega) (by omega)
            rcases hh with ⟨rfl, rfl⟩ | ⟨rfl, rfl⟩ <;> omega
        rcases hk with (hk | hk) | (hk | hk)
        · exact key _ _ (.inl ⟨rfl, rfl⟩) hk.1 hk.2
        · omega
        · exact key _ _ (.inr ⟨rfl, rfl⟩) hk.1 hk.2
        · omega
    rcases hk with (hk | hk) | (hk | hk)
    · exact ⟨.inl (by omega), by omega, by omega, idn⟩
    · obtain ⟨s1, s2, s3, _⟩ := ss i hi k (.inl hk.1)
      exact ⟨.inr ⟨s1, hk.2⟩, s2, s3, idn⟩
    · exact ⟨.inl (by omega), by omega, by omega, idn⟩
    · obtain ⟨s1, s2, s3, _⟩ := ss i hi k (.inr hk.1)
      exact ⟨.inr ⟨s1, hk.2⟩, s2, s3, idn⟩
  · rw [hlen] at hi
    exact part_apart (d12 i hi) (Nat.le_refl _) (lo_ge _ (by omega)) (lo_ge _ (by omega))
  · rw [hlen] at hj
    have mi := hf.mono (3 * i + 3) (3 * j) (by omega) (by omega)
    obtain ⟨t1, t2, t3⟩ := stp i (by omega)
    obtain ⟨u1, u2, u3⟩ := stp j hj
    have l1 := lo_ge (3 * i + 1) (by omega)
    have l2 := lo_ge (3 * j + 1) (by omega)
    rcases hk with hk | hk
    · rcases hk' with hk' | hk'
      · exact part_apart (fun k h h' => dd i j hij hj k (.inl h) (.inl h')) (by omega) l1 l2 k hk hk'
      · exact part_apart (fun k h h' => dd i j hij hj k (.inl h) (.inr h')) (by omega) l1 (by omega) k hk hk'
    · rcases hk' with hk' | hk'
      · exact part_apart (fun k h h' => dd i j hij hj k (.inr h) (.inl h')) (by omega) (by omega) l2 k hk hk'
      · exact part_apart (fun k h h' => dd i j hij hj k (.inr h) (.inr h')) (by omega) (by omega) (by omega) k hk hk'
  · rw [hlen] at hj
    obtain ⟨s, hs⟩ : ∃ s, l[i]? = some s := ⟨_, List.getElem?_eq_getElem (by omega)⟩
    obtain ⟨s', hs'⟩ : ∃ s, l[j]? = some s := ⟨_, List.getElem?_eq_getElem hj⟩
    have mi := hf.mono (3 * i + 1) (3 * j) (by omega) (by omega)
    have l1 := lo_ge (3 * i) (by omega)
    have l2 := lo_ge (3 * j) (by omega)
    rcases name i s hs k hk with ⟨_, n2, n3, _, _, _⟩ | ⟨n1, n2, _⟩
    · rcases name j s' hs' k hk' with ⟨_, _, n4, _, _, _⟩ | ⟨n4, _, _⟩
      · exact di i j hij hj k n3 n4
      · omega
    · rcases name j s' hs' k hk' with ⟨_, n5, _, _, _, _⟩ | ⟨n4, _, _⟩
      · omega
      · omega
  · obtain ⟨s, hs, hi, e⟩ := get ht
    exact hf.part1 i s hi hs k op fl t1 t2 e.symm
  · obtain ⟨s, hs, hi, rfl⟩ := get ht
    exact hf.part2 i s hi hs u hu
end Go.Proofs.YtlgajopaokjjaaaGreatFmt
namespace Go.Proofs.YtlgajopaokjjaaaGreatFmt
open Go.ChangeShapes Go.WideShapes Go.ChangeAt Go.RowKit Go.Joins
theorem partAt_zero {P : Program} {w : World} {cb : Nat} {T : TypeId} (hsh : w.heap[cb]? = some (.cells #[] T)) (h0 : P.cellsOf T = 0) : (partAt ⟨cb, 0, none⟩ 0 0).run P w = .ok ⟨cb, 0, none⟩ w := by
  have h1 : w.shape? cb = some (T, 0) := by simp [World.shape?, hsh]
  simp [partAt, byteOf, noView, viewAt, h1, h0, Result.andThen]
/-- A method that a zero-sized part of a struct has. -/
theorem method_zero {P : Program} {w : World} {n : Nat} {t cb : Nat} {name : String} {f : FuncId} {T : TypeId} {fs gs : Array Field} {fd : Field} (hm : (P.info? t).map (fun i => (i.methods.find? (·.name == name)).map fun m => (m.path, m.func)) = some (some (#[⟨T, 0, true⟩], some (f, true))))
    (hU : P.underlying T = some (.struct fs)) (hfd : fs[0]? = some fd) (ho : fd.offset = 0) (hbo : fd.byteOffset = 0) (hz : (P.info? fd.type).map (·.size) = some 0) (hU2 : P.underlying fd.type = some (.struct gs)) (hsh : w.heap[cb]? = some (.cells #[] T)) (h0 : P.cellsOf T = 0) :
    (method (n + 1) t (.pointer (some ⟨cb, 0, none⟩)) name).run P w = .ok (f, .pointer (some ⟨cb, 0, none⟩)) w := by
  obtain ⟨i, hi, e⟩ := Option.map_eq_some_iff.1 hm
  obtain ⟨m, hmm, e2⟩ := Option.map_eq_some_iff.1 e
  obtain ⟨i2, hi2, e3⟩ := Option.map_eq_some_iff.1 hz
  simp only [Prod.mk.injEq] at e2
  have hp := partAt_zero (P := P) hsh h0
  simp [method, typeInfo, hi, hmm, e2.1, e2.2, follow, run_underlying hU, run_underlying hU2, hfd, asAddr, Place.get, fieldPlace, sizeOf, hi2, e3, ho, hbo, hp, receiverAt, Result.andThen]
theorem concat_empty {a b : Option Addr} {n m : Nat} (w : World) : Calls Tryz.prog 113 #[.slice a 0 n, .slice b 0 m] w fun e w' => e = .returned (.slice b 0 m) ∧ w = w' := by
  go_enter Tryz.func113, Tryz.ntmps113
  go_wp2
  go_ret
  exact ⟨rfl, rfl⟩
set_option maxRecDepth 100000 in
set_option maxHeartbeats 800000 in
theorem moveFront_empty {w : World} {x i y j n m : Nat} {a a' : Option Addr} {cs cs' : Array Value} {T T' : TypeId} (hx : w.heap[x]? = some (.cells cs T)) (hi : cs[i]? = some (.slice a 0 n)) (hy : w.heap[y]? = some (.cells cs' T')) (hj : cs'[j]? = some (.slice a' 0 m)) (hxy : ¬ x = y) :
    Calls Tryz.prog 108 #[.pointer (some ⟨x, i, none⟩), .pointer (some ⟨y, j, none⟩)] w fun e w' => e = .returned (.tuple #[]) ∧ ∃ g k, w'.heap[y]? = some (.cells (cs'.setIfInBounds j (.slice g 0 k)) T') ∧ Within w w' (fun z => z = y) := by
  have q1 := cell_of hx hi
  have q2 := cell_of hy hj
  have z1 := fun i => unfrozen_of_block hx i
  have z2 := fun i => unfrozen_of_block hy i
  have hyx : ¬ y = x := fun e => hxy e.symm
  have zx := heap_lt hx
  have zy := heap_lt hy
  have HX := Lib.hid hx; have HI := Lib.hid hi; have HY := Lib.hid hy
  clear hx hi hy hj
  go_enter Tryz.func108, Tryz.ntmps108
  go_wp2_with fail
  go_region_with (first | (go_at_call 113; refine (concat_empty _).mono ?_; rintro e w9 ⟨rfl, rfl⟩) | fail)
  all_goals
    go_wp2_with fail
    go_end0
    exact ⟨rfl, some ⟨w.heap.size, 0, none⟩, 0, bk_drew (bk_alloc (set_same (bk_set hyx HY.out))), (((Within.of_below (set_again HX.out HI.out) _).trans (Within.set (S := fun z => z = y) _ rfl) (fun _ h _ => h)).trans (Within.of_below (below_alloc1 _ _) (fun z => z = y)) (fun _ h _ => h)).drew⟩
end Go.Proofs.YtlgajopaokjjaaaGreatFmt
namespace Go.Proofs.YtlgajopaokjjaaaGreatFmt

theorem le_sum : ∀ {l : List Nat} {x : Nat}, x ∈ l → x ≤ l.sum
  | [], _, h => by cases h
  | a :: l, x, h => by
    rw [List.sum_cons]
    rcases List.mem_cons.1 h with rfl | h
    · omega
    · have := le_sum h
      omega
/-- How many nodes a tree has. -/
def Tr.size : Tr → Nat
  | .mk _ _ _ _ subs => 1 + (subs.attach.map fun ⟨s, _⟩ => Tr.size s).sum
theorem Tr.size_sub {t s : Tr} (h : s ∈ t.subs) : s.size < t.size := by
  obtain ⟨k, tx, op, fl, subs⟩ := t
  rw [Tr.size]
  have h' : s ∈ subs := h
  have : s.size ∈ (subs.attach.map fun ⟨s, _⟩ => Tr.size s) := List.mem_map.2 ⟨⟨s, h'⟩, List.mem_attach _ _, rfl⟩
  have := le_sum this
  omega
def letterB (b : UInt8) : Bool := b == 95 || (97 ≤ b && b ≤ 122) || (65 ≤ b && b ≤ 90)
def digitB (b : UInt8) : Bool := 48 ≤ b && b ≤ 57
/-- The words that are no names. -/
def keysL : List (List UInt8) := ["assert", "else", "error", "false", "for", "function", "if", "import", "importstr", "importbin", "in", "local", "null", "tailstrict", "then", "self", "super", "true"].map fun s => s.toUTF8.data.toList
def nameB (l : List UInt8) : Bool := (match l with | [] => false | b :: r => letterB b && r.all (fun c => letterB c || digitB c)) && !keysL.contains l
/-- What becomes of a root. -/
def top (f : Int) (t : Tr) : Tr :=
  if f = 3 ∧ t.k = 14 then .mk 9 t.tx 3 t.fl t.subs
  else if f = 1 ∧ t.k = 28 then (match t.subs with | s :: _ => if s.k = 28 then s else t | [] => t)
  else if f = 2 ∧ t.k = 15 then (match t.subs with | a :: b :: _ => if b.k = 4 ∧ nameB b.tx.data.toList then .mk 16 b.tx 0 false [a] else t | _ => t)
  else if f = 2 ∧ t.k = 39 then (match t.subs with | a :: r => if nameB a.tx.data.toList then .mk 37 a.tx t.op t.fl r else t | [] => t)
  else t
theorem top_small {f : Int} {t s : Tr} (h : s ∈ (top f t).subs) : s.size < t.size := by
  unfold top at h
  split at h
  · exact Tr.size_sub (by simpa [Tr.subs] using h)
  split at h
  · split at h
    · rename_i a r e
      split at h
      · have := Tr.size_sub (t := t) (s := a) (by rw [e]; simp)
        have := Tr.size_sub h
        omega
      · exact Tr.size_sub h
    · exact Tr.size_sub h
  split at h
  · split at h
    · rename_i a b r e
      split at h
      · have e2 : s = a := by simpa [Tr.subs] using h
        exact Tr.size_sub (t := t) (by rw [e2, e]; simp)
      · exact Tr.size_sub h
    · exact Tr.size_sub h
  split at h
  · split at h
    · rename_i a r e
      split at h
      · have e2 : s ∈ r := by simpa [Tr.subs] using h
        exact Tr.size_sub (t := t) (by rw [e]; simp [e2])
      · exact Tr.size_sub h
    · exact Tr.size_sub h
  · exact Tr.size_sub h
/-- What spec.change makes of a tree: 1 brackets, 2 names, 3 what it means. -/
def chg (f : Int) (t : Tr) : Tr := .mk (top f t).k (top f t).tx (top f t).op (top f t).fl ((top f t).subs.attach.map fun ⟨s, _⟩ => chg f s)
termination_by t.size
decreasing_by exact top_small (by assumption)
theorem chg_eq (f : Int) (t : Tr) : chg f t = .mk (top f t).k (top f t).tx (top f t).op (top f t).fl ((top f t).subs.map (chg f)) := by
  rw [chg]
  congr 1
  exact List.attach_map_val (f := chg f) (l := (top f t).subs) ▸ rfl
/-- Where the pass leaves a plus out. -/
def dpAt (t : Tr) : Bool := t.k == 9 && t.op == 3 && (match t.subs with | [l, r] => (l.k == 7 || l.k == 15 || l.k == 16) && r.k == 20 | _ => false)
def dp (t : Tr) : Tr := if dpAt t then .mk 14 t.tx 0 t.fl (t.subs.attach.map fun ⟨s, _⟩ => dp s) else .mk t.k t.tx t.op t.fl (t.subs.attach.map fun ⟨s, _⟩ => dp s)
termination_by t.size
decreasing_by all_goals exact Tr.size_sub (by assumption)
theorem dp_eq (t : Tr) : dp t = if dpAt t then .mk 14 t.tx 0 t.fl (t.subs.map dp) else .mk t.k t.tx t.op t.fl (t.subs.map dp) := by
  rw [dp]
  have e : (t.subs.attach.map fun ⟨s, _⟩ => dp s) = t.subs.map dp := List.attach_map_val (f := dp) (l := t.subs)
  rw [e]
theorem top3 (t : Tr) : top 3 t = if t.k = 14 then .mk 9 t.tx 3 t.fl t.subs else t := by
  unfold top
  by_cases h : t.k = 14
  · simp [h]
  · simp [h]
theorem chg3_mk (k : Int) (tx : ByteArray) (op : Int) (fl : Bool) (subs : List Tr) : chg 3 (.mk k tx op fl subs) = if k = 14 then .mk 9 tx 3 fl (subs.map (chg 3)) else .mk k tx op fl (subs.map (chg 3)) := by
  rw [chg_eq, top3]
  by_cases h : k = 14 <;> simp [h, Tr.k, Tr.tx, Tr.op, Tr.fl, Tr.subs]
/-- Where pluses are left out, the tree means what it meant. -/
theorem mean_dp (t : Tr) : chg 3 (dp t) = chg 3 t := by
  induction t using Tr.ind with
  | h t ih =>
  have e : (t.subs.map dp).map (chg 3) = t.subs.map (chg 3) := by
    rw [List.map_map]
    exact List.map_congr_left fun s hs => ih s hs
  rw [dp_eq]
  conv => rhs; rw [t.eta, chg3_mk]
  split
  · rename_i h
    have h9 : t.k = 9 ∧ t.op = 3 := by
      unfold dpAt at h
      simp only [Bool.and_eq_true, beq_iff_eq] at h
      exact h.1
    rw [chg3_mk, e, h9.1, h9.2]
    simp
  · rw [chg3_mk, e]
theorem bnd_dp {M : Nat} {t : Tr} (h : Bnd M t) : Bnd M (dp t) := by
  induction t using Tr.ind with
  | h t ih =>
  have hl := h.len
  have hs : ∀ s ∈ t.subs.map dp, Bnd M s := fun s hs => by
    obtain ⟨x, hx, rfl⟩ := List.mem_map.1 hs
    exact ih x hx (h.sub x hx)
  rw [dp_eq]
  split
  · exact .mk _ (by simpa [Tr.subs] using hl) (by simpa [Tr.subs] using hs)
  · exact .mk _ (by simpa [Tr.subs] using hl) (by simpa [Tr.subs] using hs)
theorem bnd_top {M : Nat} {f : Int} {t : Tr} (h : Bnd M t) : Bnd M (top f t) := by
  have hl := h.len
  have hs := h.sub
  unfold top
  split
  · exact .mk _ (by simpa [Tr.subs] using hl) (by simpa [Tr.subs] using hs)
  split
  · split
    · rename_i a r e
      split
      · exact hs a (by rw [e]; simp)
      · exact h
    · exact h
  split
  · split
    · rename_i a b r e
      split
      · exact .mk _ (by rw [e] at hl; simp [Tr.subs] at hl ⊢; omega) (by simpa [Tr.subs] using hs a (by rw [e]; simp))
      · exact h
    · exact h
  split
  · split
    · rename_i a r e
      split
      · exact .mk _ (by rw [e] at hl; simp [Tr.subs] at hl ⊢; omega) (fun s hs' => hs s (by rw [e]; exact List.mem_cons_of_mem _ (by simpa [Tr.subs] using hs')))
      · exact h
    · exact h
  · exact h
theorem bnd_chg {M : Nat} {f : Int} {t : Tr} (h : Bnd M t) : Bnd M (chg f t) := by
  have key : ∀ (n : Nat) (t : Tr), t.size ≤ n → Bnd M t → Bnd M (chg f t) := by
    intro n
    induction n with
    | zero =>
      intro t hn
      obtain ⟨k, tx, op, fl, subs⟩ := t
      rw [Tr.size] at hn
      omega
    | succ n ih =>
      intro t hn ht
      have hb := bnd_top (f := f) ht
      rw [chg_eq]
      refine .mk _ (by simpa [Tr.subs] using hb.len) (fun s hs => ?_)
      have hs' : s ∈ (top f t).subs.map (chg f) := hs
      obtain ⟨x, hx, rfl⟩ := List.mem_map.1 hs'
      have := top_small hx
      exact ih x (by omega) (hb.sub x hx)
  exact key t.size t (Nat.le_refl _) h
end Go.Proofs.YtlgajopaokjjaaaGreatFmt
namespace Go.Proofs.YtlgajopaokjjaaaGreatFmt

/-- How many nodes are below one of a kind. -/
def belowF (k : Int) : Int × Int :=
  if 1 ≤ k ∧ k ≤ 7 then (0, 0) else if k = 8 ∨ k = 16 ∨ k = 23 ∨ k = 28 ∨ k = 32 ∨ k = 37 then (1, 1) else if k = 9 ∨ k = 14 ∨ k = 15 ∨ k = 39 then (2, 2)
  else if k = 10 then (2, 3) else if k = 13 then (1, 6) else if k = 18 ∨ k = 20 then (0, 6) else (-1, -1)
/-- Which node can stand below another one. -/
def underF (k : Int) (i : Nat) (s : Int) : Prop :=
  if k = 20 then s = 37 ∨ s = 39 else if k = 13 ∧ 0 < i then s = 32 else if k = 39 ∧ i = 0 then s = 4 else s ≠ 37 ∧ s ≠ 39 ∧ s ≠ 32
/-- A node has what its kind has, and no more. -/
def ownF (t : Tr) : Prop :=
  if t.k = 2 then t.tx = ByteArray.empty ∧ t.op = 0 else if t.k = 3 ∨ t.k = 7 ∨ t.k = 16 then t.op = 0 ∧ t.fl = false
  else if t.k = 4 then 0 ≤ t.op ∧ t.op ≤ 4 ∧ t.fl = false else if t.k = 8 then t.tx = ByteArray.empty ∧ 0 ≤ t.op ∧ t.op < 4 ∧ t.fl = false
  else if t.k = 9 then t.tx = ByteArray.empty ∧ 0 ≤ t.op ∧ t.op < 19 ∧ t.fl = false else if t.k = 37 then 0 ≤ t.op ∧ t.op ≤ 2
  else if t.k = 39 then t.tx = ByteArray.empty ∧ 0 ≤ t.op ∧ t.op ≤ 2 else t.tx = ByteArray.empty ∧ t.op = 0 ∧ t.fl = false
/-- What spec.Fits tells. -/
def FitsP : Nat → Tr → Prop
  | 0, _ => False
  | d + 1, t => (belowF t.k).1 ≤ t.subs.length ∧ t.subs.length ≤ (belowF t.k).2 ∧ (ownF t ∧ t.tx.size ≤ 100) ∧ ∀ i s, t.subs[i]? = some s → underF t.k i s.k ∧ FitsP d s

/-- The trees of which something is stated, as expressions. -/
inductive Ok : Tr → Prop
  | null : Ok (.mk 1 ByteArray.empty 0 false [])
  | boolean (fl : Bool) : Ok (.mk 2 ByteArray.empty 0 fl [])
  | number (tx : ByteArray) : Ok (.mk 3 tx 0 false [])
  | str (tx : ByteArray) (op : Int) (h0 : 0 ≤ op) (h4 : op ≤ 4) : Ok (.mk 4 tx op false [])
  | self : Ok (.mk 5 ByteArray.empty 0 false [])
  | dollar : Ok (.mk 6 ByteArray.empty 0 false [])
  | var (tx : ByteArray) : Ok (.mk 7 tx 0 false [])
  | unary (op : Int) (t1 : Tr) (h0 : 0 ≤ op) (h4 : op < 4) (a1 : Ok t1) : Ok (.mk 8 ByteArray.empty op false [t1])
  | binary (op : Int) (t1 t2 : Tr) (h0 : 0 ≤ op) (h4 : op < 19) (a1 : Ok t1) (a2 : Ok t2) : Ok (.mk 9 ByteArray.empty op false [t1, t2])
  | if2 (t1 t2 : Tr) (a1 : Ok t1) (a2 : Ok t2) : Ok (.mk 10 ByteArray.empty 0 false [t1, t2])
  | if3 (t1 t2 t3 : Tr) (a1 : Ok t1) (a2 : Ok t2) (a3 : Ok t3) : Ok (.mk 10 ByteArray.empty 0 false [t1, t2, t3])
  | brace (t1 t2 : Tr) (a1 : Ok t1) (a2 : Ok t2) : Ok (.mk 14 ByteArray.empty 0 false [t1, t2])
  | index (t1 t2 : Tr) (a1 : Ok t1) (a2 : Ok t2) : Ok (.mk 15 ByteArray.empty 0 false [t1, t2])
  | dot (tx : ByteArray) (t1 : Tr) (a1 : Ok t1) : Ok (.mk 16 tx 0 false [t1])
  | error (t1 : Tr) (a1 : Ok t1) : Ok (.mk 23 ByteArray.empty 0 false [t1])
  | parens (t1 : Tr) (a1 : Ok t1) : Ok (.mk 28 ByteArray.empty 0 false [t1])
  | apply (t1 : Tr) (l : List Tr) (hl : l.length ≤ 5) (a1 : Ok t1) (aa : ∀ t ∈ l, Ok t) : Ok (.mk 13 ByteArray.empty 0 false (t1 :: l.map fun t => .mk 32 ByteArray.empty 0 false [t]))
  | array (l : List Tr) (hl : l.length ≤ 6) (aa : ∀ t ∈ l, Ok t) : Ok (.mk 18 ByteArray.empty 0 false l)
  | object (l : List Tr) (hl : l.length ≤ 6) (hf : ∀ s ∈ l, 0 ≤ s.op ∧ s.op ≤ 2 ∧ ((∃ t, s = .mk 37 s.tx s.op s.fl [t]) ∨ ∃ tx o t, (0 ≤ o ∧ o ≤ 4) ∧ s = .mk 39 ByteArray.empty s.op s.fl [.mk 4 tx o false [], t]))
      (aa : ∀ s ∈ l, ∀ u, s.subs.getLast? = some u → Ok u) : Ok (.mk 20 ByteArray.empty 0 false l)

theorem Tr.k_mk (k : Int) (tx : ByteArray) (op : Int) (fl : Bool) (subs : List Tr) : (Tr.mk k tx op fl subs).k = k := rfl
theorem Tr.subs_mk (k : Int) (tx : ByteArray) (op : Int) (fl : Bool) (subs : List Tr) : (Tr.mk k tx op fl subs).subs = subs := rfl
theorem list1 {α : Type} {l : List α} (h : l.length = 1) : ∃ a, l = [a] := by
  match l, h with
  | [a], _ => exact ⟨a, rfl⟩
theorem list2 {α : Type} {l : List α} (h : l.length = 2) : ∃ a b, l = [a, b] := by
  match l, h with
  | [a, b], _ => exact ⟨a, b, rfl⟩
theorem list3 {α : Type} {l : List α} (h : l.length = 3) : ∃ a b c, l = [a, b, c] := by
  match l, h with
  | [a, b, c], _ => exact ⟨a, b, c, rfl⟩

theorem args_of (d : Nat) : ∀ (l : List Tr), (∀ s ∈ l, s.k = 32 ∧ FitsP d s) → (∀ t, (∀ e, e < d → FitsP e t → t.k ≠ 32 → t.k ≠ 37 → t.k ≠ 39 → Ok t)) → ∃ m : List Tr, m.length = l.length ∧ l = m.map (fun t => .mk 32 ByteArray.empty 0 false [t]) ∧ ∀ t ∈ m, Ok t
  | [], _, _ => ⟨[], rfl, rfl, by simp⟩
  | s :: l, h, ih => by
    obtain ⟨m, h1, h2, h3⟩ := args_of d l (fun x hx => h x (by simp [hx])) ih
    obtain ⟨hk, hf⟩ := h s (by simp)
    cases d with
    | zero => exact hf.elim
    | succ d =>
      obtain ⟨f1, f2, ⟨f3, _⟩, f4⟩ := hf
      have hb : belowF s.k = (1, 1) := by rw [hk]; rfl
      rw [hb] at f1 f2
      obtain ⟨t, ht⟩ := list1 (l := s.subs) (by simp at f1 f2; omega)
      have ho : s.tx = ByteArray.empty ∧ s.op = 0 ∧ s.fl = false := by simpa [ownF, hk] using f3
      obtain ⟨u1, u2⟩ := f4 0 t (by rw [ht]; rfl)
      have hu : t.k ≠ 37 ∧ t.k ≠ 39 ∧ t.k ≠ 32 := by simpa [underF, hk] using u1
      refine ⟨t :: m, by simp [h1], ?_, ?_⟩
      · rw [List.map_cons, ← h2, s.eta, hk, ho.1, ho.2.1, ho.2.2, ht]
      · intro x hx
        rcases List.mem_cons.1 hx with rfl | hx
        · exact ih _ d (by omega) u2 hu.2.2 hu.1 hu.2.1
        · exact h3 x hx

theorem fits_ok : ∀ (d : Nat) (t : Tr), FitsP d t → t.k ≠ 32 → t.k ≠ 37 → t.k ≠ 39 → Ok t := by
  intro d
  induction d using Nat.strongRecOn with
  | _ d ih =>
  intro t hf n32 n37 n39
  cases d with
  | zero => exact hf.elim
  | succ d =>
    obtain ⟨f1, f2, ⟨f3, _⟩, f4⟩ := hf
    have kid : ∀ i s, t.subs[i]? = some s → (t.k ≠ 20 ∧ t.k ≠ 13 ∧ t.k ≠ 39) → Ok s := fun i s hs hk => by
      obtain ⟨u1, u2⟩ := f4 i s hs
      have hu : s.k ≠ 37 ∧ s.k ≠ 39 ∧ s.k ≠ 32 := by simpa [underF, hk] using u1
      exact ih d (by omega) s u2 hu.2.2 hu.1 hu.2.1
    have hk : (1 ≤ t.k ∧ t.k ≤ 7) ∨ t.k = 8 ∨ t.k = 16 ∨ t.k = 23 ∨ t.k = 28 ∨ t.k = 9 ∨ t.k = 14 ∨ t.k = 15 ∨ t.k = 10 ∨ t.k = 13 ∨ t.k = 18 ∨ t.k = 20 := by
      apply Classical.byContradiction
      intro hn
      have : belowF t.k = (-1, -1) := by
        unfold belowF
        rw [if_neg (by omega), if_neg (by omega), if_neg (by omega), if_neg (by omega), if_neg (by omega), if_neg (by omega)]
      rw [this] at f2
      simp at f2
      omega
    obtain ⟨k, tx, op, fl, subs⟩ := t
    simp only [Tr.k_mk, Tr.subs_mk] at *
    rcases hk with hk | hk | hk | hk | hk | hk | hk | hk | hk | hk | hk | hk
    · have hb : belowF k = (0, 0) := by unfold belowF; rw [if_pos hk]
      rw [hb] at f2
      obtain rfl : subs = [] := List.eq_nil_of_length_eq_zero (by have h0 : (subs.length : Int) ≤ 0 := f2; omega)
      obtain rfl | rfl | rfl | rfl | rfl | rfl | rfl : k = 1 ∨ k = 2 ∨ k = 3 ∨ k = 4 ∨ k = 5 ∨ k = 6 ∨ k = 7 := by omega
      all_goals simp [ownF, Tr.k, Tr.tx, Tr.op, Tr.fl] at f3
      · obtain ⟨rfl, rfl, rfl⟩ := f3; exact .null
      · obtain ⟨rfl, rfl⟩ := f3; exact .boolean fl
      · obtain ⟨rfl, rfl⟩ := f3; exact .number tx
      · obtain ⟨h0, h4, rfl⟩ := f3; exact .str tx op h0 h4
      · obtain ⟨rfl, rfl, rfl⟩ := f3; exact .self
      · obtain ⟨rfl, rfl, rfl⟩ := f3; exact .dollar
      · obtain ⟨rfl, rfl⟩ := f3; exact .var tx
    all_goals subst hk
    · obtain ⟨t1, rfl⟩ := list1 (l := subs) (by simp [belowF] at f1 f2; omega)
      simp [ownF, Tr.k, Tr.tx, Tr.op, Tr.fl] at f3
      obtain ⟨rfl, h0, h4, rfl⟩ := f3
      exact .unary op t1 h0 h4 (kid 0 t1 rfl (by decide))
    · obtain ⟨t1, rfl⟩ := list1 (l := subs) (by simp [belowF] at f1 f2; omega)
      simp [ownF, Tr.k, Tr.op, Tr.fl] at f3
      obtain ⟨rfl, rfl⟩ := f3
      exact .dot tx t1 (kid 0 t1 rfl (by decide))
    · obtain ⟨t1, rfl⟩ := list1 (l := subs) (by simp [belowF] at f1 f2; omega)
      simp [ownF, Tr.k, Tr.tx, Tr.op, Tr.fl] at f3
      obtain ⟨rfl, rfl, rfl⟩ := f3
      exact .error t1 (kid 0 t1 rfl (by decide))
    · obtain ⟨t1, rfl⟩ := list1 (l := subs) (by simp [belowF] at f1 f2; omega)
      simp [ownF, Tr.k, Tr.tx, Tr.op, Tr.fl] at f3
      obtain ⟨rfl, rfl, rfl⟩ := f3
      exact .parens t1 (kid 0 t1 rfl (by decide))
    · obtain ⟨t1, t2, rfl⟩ := list2 (l := subs) (by simp [belowF] at f1 f2; omega)
      simp [ownF, Tr.k, Tr.tx, Tr.op, Tr.fl] at f3
      obtain ⟨rfl, h0, h4, rfl⟩ := f3
      exact .binary op t1 t2 h0 h4 (kid 0 t1 rfl (by decide)) (kid 1 t2 rfl (by decide))
    · obtain ⟨t1, t2, rfl⟩ := list2 (l := subs) (by simp [belowF] at f1 f2; omega)
      simp [ownF, Tr.k, Tr.tx, Tr.op, Tr.fl] at f3
      obtain ⟨rfl, rfl, rfl⟩ := f3
      exact .brace t1 t2 (kid 0 t1 rfl (by decide)) (kid 1 t2 rfl (by decide))
    · obtain ⟨t1, t2, rfl⟩ := list2 (l := subs) (by simp [belowF] at f1 f2; omega)
      simp [ownF, Tr.k, Tr.tx, Tr.op, Tr.fl] at f3
      obtain ⟨rfl, rfl, rfl⟩ := f3
      exact .index t1 t2 (kid 0 t1 rfl (by decide)) (kid 1 t2 rfl (by decide))
    · simp [ownF, Tr.k, Tr.tx, Tr.op, Tr.fl] at f3
      obtain ⟨rfl, rfl, rfl⟩ := f3
      have hl : subs.length = 2 ∨ subs.length = 3 := by simp [belowF] at f1 f2; omega
      rcases hl with hl | hl
      · obtain ⟨t1, t2, rfl⟩ := list2 hl
        exact .if2 t1 t2 (kid 0 t1 rfl (by decide)) (kid 1 t2 rfl (by decide))
      · obtain ⟨t1, t2, t3, rfl⟩ := list3 hl
        exact .if3 t1 t2 t3 (kid 0 t1 rfl (by decide)) (kid 1 t2 rfl (by decide)) (kid 2 t3 rfl (by decide))
    · simp [ownF, Tr.k, Tr.tx, Tr.op, Tr.fl] at f3
      obtain ⟨rfl, rfl, rfl⟩ := f3
      have hl : 1 ≤ subs.length ∧ subs.length ≤ 6 := by simp [belowF] at f1 f2; omega
      match subs, hl, f4 with
      | t1 :: rest, hl, f4 =>
        obtain ⟨u1, u2⟩ := f4 0 t1 rfl
        have hu : t1.k ≠ 37 ∧ t1.k ≠ 39 ∧ t1.k ≠ 32 := by simpa [underF] using u1
        obtain ⟨m, h1, h2, h3⟩ := args_of d rest (fun s hs => by
          obtain ⟨i, hi⟩ := List.getElem?_of_mem hs
          obtain ⟨v1, v2⟩ := f4 (i + 1) s (by simpa using hi)
          exact ⟨by simpa [underF] using v1, v2⟩) (fun x e he hfe a b c => ih e (by omega) x hfe a b c)
        rw [h2]
        exact .apply t1 m (by simp at hl; omega) (ih d (by omega) t1 u2 hu.2.2 hu.1 hu.2.1) h3
    · simp [ownF, Tr.k, Tr.tx, Tr.op, Tr.fl] at f3
      obtain ⟨rfl, rfl, rfl⟩ := f3
      exact .array subs (by simp [belowF] at f2; omega) (fun x hx => by
        obtain ⟨i, hi⟩ := List.getElem?_of_mem hx
        exact kid i x hi (by decide))
    · simp [ownF, Tr.k, Tr.tx, Tr.op, Tr.fl] at f3
      obtain ⟨rfl, rfl, rfl⟩ := f3
      have fld : ∀ s ∈ subs, (0 ≤ s.op ∧ s.op ≤ 2 ∧ ((∃ t, s = .mk 37 s.tx s.op s.fl [t]) ∨ ∃ tx o t, (0 ≤ o ∧ o ≤ 4) ∧ s = .mk 39 ByteArray.empty s.op s.fl [.mk 4 tx o false [], t])) ∧ ∀ u, s.subs.getLast? = some u → Ok u := by
        intro s hs
        obtain ⟨i, hi⟩ := List.getElem?_of_mem hs
        obtain ⟨v1, v2⟩ := f4 i s hi
        have hk : s.k = 37 ∨ s.k = 39 := by simpa [underF] using v1
        cases d with
        | zero => exact v2.elim
        | succ d =>
          obtain ⟨g1, g2, ⟨g3, _⟩, g4⟩ := v2
          rcases hk with hk | hk
          · rw [hk] at g1 g2
            obtain ⟨t, ht⟩ := list1 (l := s.subs) (by simp [belowF] at g1 g2; omega)
            have ho : 0 ≤ s.op ∧ s.op ≤ 2 := by simpa [ownF, hk] using g3
            obtain ⟨u1, u2⟩ := g4 0 t (by rw [ht]; rfl)
            have hu : t.k ≠ 37 ∧ t.k ≠ 39 ∧ t.k ≠ 32 := by simpa [underF, hk] using u1
            refine ⟨⟨ho.1, ho.2, .inl ⟨t, by rw [← hk, ← ht]; exact s.eta⟩⟩, fun u hu' => ?_⟩
            rw [ht] at hu'
            obtain rfl : t = u := by simpa using hu'
            exact ih d (by omega) _ u2 hu.2.2 hu.1 hu.2.1
          · rw [hk] at g1 g2
            obtain ⟨t1, t2, ht⟩ := list2 (l := s.subs) (by simp [belowF] at g1 g2; omega)
            have ho : s.tx = ByteArray.empty ∧ 0 ≤ s.op ∧ s.op ≤ 2 := by simpa [ownF, hk] using g3
            obtain ⟨u1, u2⟩ := g4 0 t1 (by rw [ht]; rfl)
            obtain ⟨w1, w2⟩ := g4 1 t2 (by rw [ht]; rfl)
            have hu1 : t1.k = 4 := by simpa [underF, hk] using u1
            have hu2 : t2.k ≠ 37 ∧ t2.k ≠ 39 ∧ t2.k ≠ 32 := by simpa [underF, hk] using w1
            have ok1 := ih d (by omega) t1 u2 (by omega) (by omega) (by omega)
            have ok2 := ih d (by omega) t2 w2 hu2.2.2 hu2.1 hu2.2.1
            have e1 : ∃ tx o, (0 ≤ o ∧ o ≤ 4) ∧ t1 = .mk 4 tx o false [] := by
              cases ok1 <;> simp [Tr.k] at hu1
              rename_i tx o h0 h4
              exact ⟨tx, o, ⟨h0, h4⟩, rfl⟩
            obtain ⟨tx, o, h04, rfl⟩ := e1
            refine ⟨⟨ho.2.1, ho.2.2, .inr ⟨tx, o, t2, h04, by rw [← ho.1, ← hk, ← ht]; exact s.eta⟩⟩, fun u hu' => ?_⟩
            rw [ht] at hu'
            obtain rfl : t2 = u := by simpa using hu'
            exact ok2
      exact .object subs (by simp [belowF] at f2; omega) (fun s hs => (fld s hs).1) (fun s hs => (fld s hs).2)
/-- No text in a tree is longer than 100. -/
inductive Txs : Tr → Prop
  | mk (t : Tr) (h : t.tx.size ≤ 100) (hs : ∀ s ∈ t.subs, Txs s) : Txs t
theorem Txs.here {t : Tr} (h : Txs t) : t.tx.size ≤ 100 := by cases h; assumption
theorem Txs.sub {t : Tr} (h : Txs t) : ∀ s ∈ t.subs, Txs s := by cases h; assumption
theorem fits_txs : ∀ (d : Nat) (t : Tr), FitsP d t → Txs t
  | 0, _, h => h.elim
  | d + 1, t, h => by
    obtain ⟨_, _, ⟨_, h3⟩, h4⟩ := h
    refine .mk t h3 fun s hs => ?_
    obtain ⟨i, hi⟩ := List.getElem?_of_mem hs
    exact fits_txs d s (h4 i s hi).2
end Go.Proofs.YtlgajopaokjjaaaGreatFmt
namespace Go.Proofs.YtlgajopaokjjaaaGreatFmt
theorem ne_nil1 (u : TypeId) (v : Value) (W : World) : (binOp .neq 41 (.iface u v) .nilIface).run Tryz.prog W = .ok (.bool true) W := by kernel_rfl
theorem ne_nil0 (W : World) : (binOp .neq 41 .nilIface .nilIface).run Tryz.prog W = .ok (.bool false) W := by kernel_rfl
theorem eq_nil1 (u : TypeId) (v : Value) (W : World) : (binOp .eql 41 (.iface u v) .nilIface).run Tryz.prog W = .ok (.bool false) W := by kernel_rfl
theorem eq_nil0 (W : World) : (binOp .eql 41 .nilIface .nilIface).run Tryz.prog W = .ok (.bool true) W := by kernel_rfl
end Go.Proofs.YtlgajopaokjjaaaGreatFmt
namespace Go.Proofs.YtlgajopaokjjaaaGreatFmt
theorem flddone_from {w w2 w' : World} {S1 S2 : Nat → Prop} {g o : Nat} {cur cur2 : Array Value} {F F2 : Fld} {s' : Tr} {e : Ending} (h : FldDone w2 (fun k => S1 k ∧ k < w.heap.size) (fun k => S2 k ∧ k < w.heap.size) g o cur2 F2 s' e w') (hW : Within w w2 (fun k => k = g)) (hc : ∀ j, j < o ∨ o + 18 ≤ j → cur2[j]? = cur[j]?) (hgl : g < w.heap.size)
    (hid : ∀ c, F2.id = some c → (F.id = some c ∧ c < w.heap.size ∧ c ≠ g) ∨ (w.heap.size ≤ c ∧ nameAt w2 c s'.tx)) : FldDone w S1 S2 g o cur F s' e w' := by
  obtain ⟨he, F', cur', m1, m2, hR, hk, hrow, hg, hm0, hm1, hm2, hI, hA1, hA2⟩ := h
  have hz := hW.size
  refine ⟨he, F', cur', m1, m2, hR, fun j hj => (hk j hj).trans (hc j hj), hrow, ?_, by omega, hm1, hm2, fun c hcc => ?_, fun kk op fl t1 t2 e2 => (hA1 kk op fl t1 t2 e2).mono fun k hk _ => ?_, fun u hu => (hA2 u hu).mono fun k hk _ => ?_⟩
  · exact (hW.mono (T := fun k => (S1 k ∨ S2 k) ∨ k = g) (fun k hk _ => .inr hk)).trans hg (fun k hk _ => by
      rcases hk with (hk | hk) | hk
      · exact .inl (.inl hk.1)
      · exact .inl (.inr hk.1)
      · exact .inr hk)
  · rcases hI c hcc with ⟨h1, h2⟩ | ⟨h1, h2, h3⟩
    · rcases hid c h1 with ⟨i1, i2, i3⟩ | ⟨i1, i2⟩
      · exact .inl ⟨i1, fun tx htx => h2 tx ((hW.block c i2 i3).trans htx)⟩
      · refine .inr ⟨i1, by have := heap_lt i2; omega, ?_⟩
        refine (hg.block c (heap_lt i2) (fun hx => ?_)).trans i2
        rcases hx with (hx | hx) | hx
        · have := hx.2; omega
        · have := hx.2; omega
        · omega
    · exact .inr ⟨by omega, h2, h3⟩
  · rcases hk with hk | hk
    · exact .inl hk
    · exact .inr hk.1
  · rcases hk with hk | hk
    · exact .inl hk
    · exact .inr hk.1
end Go.Proofs.YtlgajopaokjjaaaGreatFmt
namespace Go.Proofs.YtlgajopaokjjaaaGreatFmt
open Go.ChangeShapes Go.WideShapes Go.ChangeAt Go.RowKit Go.Joins
theorem baseContext_any (r p : Value) (w : World) : Calls Tryz.prog 56 #[r, p] w fun e w' => e = .returned .nilIface ∧ w = w' := by
  go_enter Tryz.func56, Tryz.ntmps56
  go_wp2
  go_ret
  exact ⟨rfl, rfl⟩
set_option maxRecDepth 100000 in
set_option maxHeartbeats 800000 in
theorem file_any {fV : FuncId} {yp TP : TypeId} {cb : Nat} (P : PassVisits fV yp TP cb) (hBC : ∀ w, PassAt TP cb w → (method 388 yp (.pointer (some ⟨cb, 0, none⟩)) "BaseContext").run Tryz.prog w = .ok (56, .pointer (some ⟨cb, 0, none⟩)) w) (r : Value) {w : World} {S : Nat → Prop} {t t' : Tr} {y : TypeId} {b x d n : Nat} {a : Option Addr} (V : VisitOk fV yp TP cb t t') (hp : PassAt TP cb w) (hn : ¬ S cb) (hxc : x ≠ cb) (ha : Ast w S t y b) (hSx : ¬ S x)
    (hx : w.heap[x]? = some (.cells #[.iface y (.pointer (some ⟨b, 0, none⟩))] 41)) (hd : w.heap[d]? = some (.cells #[.slice a 0 n] 44)) (hSd : ¬ S d) (hdx : d ≠ x) :
    Calls Tryz.prog 12 #[r, .iface yp (.pointer (some ⟨cb, 0, none⟩)), .pointer (some ⟨x, 0, none⟩), .pointer (some ⟨d, 0, none⟩)] w fun e w' => Visited w S x 0 #[.iface y (.pointer (some ⟨b, 0, none⟩))] 41 t' e w' := by
  have VV := Lib.hid (V w S y b x 0 _ _ hp hn hxc ha hSx hx rfl)
  have m1 := hBC w hp; have m2 := P.visit w hp; have m5 := P.enter
  have HP := Lib.hid hp; have PP := Lib.hid P; have HD := Lib.hid hd
  clear V hp ha hx hd P hBC
  go_enter Tryz.func12, Tryz.ntmps12
  go_wp2_with fail
  go_at_call 56
  refine (baseContext_any _ _ _).mono ?_
  rintro e w0 ⟨rfl, rfl⟩
  go_wp2_with fail
  refine VV.out.mono ?_
  rintro e w1 ⟨rfl, hv⟩
  obtain ⟨y', b', h1, h2, h3⟩ := hv
  have m3 := PP.out.fodder w1 ((h2.block cb (heap_lt HP.out) (fun hx => hx.elim hn (fun e => hxc e.symm))).trans HP.out)
  have f := cell_of (j := 0) ((h2.block d (heap_lt HD.out) (fun hx => hx.elim hSd (fun e => hdx e))).trans HD.out) rfl
  have H1 := Lib.hid h1; have H2 := Lib.hid h2; have H3 := Lib.hid h3
  clear h1 h2 h3 m1 m2
  go_wp2_with fail
  refine (fodder_any _ _ f).mono ?_
  rintro e w4 ⟨rfl, rfl⟩
  go_wp2
  go_end0
  exact ⟨rfl, y', b', H1.out, H2.out, H3.out⟩
end Go.Proofs.YtlgajopaokjjaaaGreatFmt
namespace Go.Proofs.YtlgajopaokjjaaaGreatFmt
open Go.ChangeShapes Go.WideShapes Go.ChangeAt Go.RowKit Go.Joins

/-- The cells of a row of expressions; the trees lie in S, apart from each other. -/
def Elems (w : World) (S : Nat → Prop) (l : List Tr) (xs : List Value) : Prop :=
  ∃ (ys bs : Nat → Nat) (SS : Nat → Nat → Prop), xs.length = l.length * 2 ∧
    (∀ i, i < l.length → xs[i * 2]? = some (.iface (ys i) (.pointer (some ⟨bs i, 0, none⟩))) ∧ xs[i * 2 + 1]? = some (.slice none 0 0)) ∧
    (∀ i, i < l.length → ∀ k, SS i k → S k ∧ k < w.heap.size) ∧ (∀ i j, i < j → j < l.length → ∀ k, SS i k → ¬ SS j k) ∧ ∀ i t, l[i]? = some t → Ast w (SS i) t (ys i) (bs i)
theorem elems_nil (w : World) (S : Nat → Prop) : Elems w S [] [] := ⟨fun _ => 0, fun _ => 0, fun _ _ => False, rfl, fun i h => absurd h (by simp), fun i h => absurd h (by simp), fun i j _ h => absurd h (by simp), fun i t h => by simp at h⟩
theorem Elems.keep {w w' : World} {S T : Nat → Prop} {l : List Tr} {xs : List Value} (h : Elems w S l xs) (hT : ∀ k, S k → k < w.heap.size → T k) (hb : ∀ k, S k → k < w.heap.size → w'.heap[k]? = w.heap[k]?) (hz : w.heap.size ≤ w'.heap.size) : Elems w' T l xs := by
  obtain ⟨ys, bs, SS, h1, h2, h3, h4, h5⟩ := h
  exact ⟨ys, bs, SS, h1, h2, fun i hi k hk => ⟨hT k (h3 i hi k hk).1 (h3 i hi k hk).2, Nat.lt_of_lt_of_le (h3 i hi k hk).2 hz⟩, h4, fun i t ht => (h5 i t ht).keep (fun _ h _ => h) (fun k hk hl => hb k (h3 i (List.getElem?_eq_some_iff.1 ht).1 k hk).1 hl)⟩
theorem Elems.below {w w' : World} {S : Nat → Prop} {l : List Tr} {xs : List Value} (h : Elems w S l xs) (hb : Below w.heap.size w w') : Elems w' S l xs := h.keep (fun _ h _ => h) (fun k _ hk => hb.block k hk) hb.size
/-- One expression more, in blocks that are new. -/
theorem Elems.push {w w' : World} {S S' : Nat → Prop} {l : List Tr} {xs : List Value} {t : Tr} {y b : Nat} (h : Elems w S l xs) (hb : Below w.heap.size w w') (ha : Ast w' S' t y b) (hS : ∀ k, S' k → w.heap.size ≤ k ∧ k < w'.heap.size ∧ S k) :
    Elems w' S (l ++ [t]) (xs ++ [.iface y (.pointer (some ⟨b, 0, none⟩)), .slice none 0 0]) := by
  obtain ⟨ys, bs, SS, h1, h2, h3, h4, h5⟩ := h
  refine ⟨fun i => if i < l.length then ys i else y, fun i => if i < l.length then bs i else b, fun i => if i < l.length then SS i else S', by simp [h1]; omega, fun i hi => ?_, fun i hi k hk => ?_, fun i j hij hj k hk hk' => ?_, fun i u hu => ?_⟩
  · by_cases hl : i < l.length
    · simp only [if_pos hl]
      rw [List.getElem?_append_left (by omega), List.getElem?_append_left (by omega)]
      exact h2 i hl
    · have e : i = l.length := by simp at hi; omega
      subst e
      simp only [if_neg hl]
      rw [List.getElem?_append_right (by omega), List.getElem?_append_right (by omega), h1, show l.length * 2 - l.length * 2 = 0 by omega, show l.length * 2 + 1 - l.length * 2 = 1 by omega]
      exact ⟨rfl, rfl⟩
  · by_cases hl : i < l.length
    · simp only [if_pos hl] at hk
      exact ⟨(h3 i hl k hk).1, Nat.lt_of_lt_of_le (h3 i hl k hk).2 hb.size⟩
    · simp only [if_neg hl] at hk
      exact ⟨(hS k hk).2.2, (hS k hk).2.1⟩
  · have hi : i < l.length := by simp at hj; omega
    simp only [if_pos hi] at hk
    by_cases hl : j < l.length
    · simp only [if_pos hl] at hk'
      exact h4 i j hij hl k hk hk'
    · simp only [if_neg hl] at hk'
      have a1 := (h3 i hi k hk).2
      have a2 := (hS k hk').1
      omega
  · by_cases hl : i < l.length
    · simp only [if_pos hl]
      rw [List.getElem?_append_left hl] at hu
      exact (h5 i u hu).bel hb
    · simp only [if_neg hl]
      have hi : i < l.length + 1 := by
        have := (List.getElem?_eq_some_iff.1 hu).1
        simpa using this
      have e : i = l.length := by omega
      subst e
      rw [List.getElem?_append_right (by omega)] at hu
      obtain rfl : t = u := by simpa using hu
      exact ha
/-- A row of expressions, as a list of arguments or elements holds it. -/
theorem Elems.row {w : World} {S : Nat → Prop} {l : List Tr} {xs : List Value} {base : Nat} {v : Value} (h : Elems w S l xs) (ho : w.ownsRow base 84 2 v l.length xs) :
    ∃ (g : Nat) (cur : Array Value) (a : Option Addr) (cap : Nat) (ys bs : Nat → Nat) (SS : Nat → Nat → Prop), v = .slice a l.length cap ∧ (0 < l.length → a = some ⟨g, 0, none⟩ ∧ base ≤ g ∧ v.ownBlock = some g ∧ g < w.heap.size ∧ w.heap[g]? = some (.cells cur 84)) ∧ l.length ≤ cap ∧
      (∀ i, i < l.length → cur[i * 2]? = some (.iface (ys i) (.pointer (some ⟨bs i, 0, none⟩))) ∧ cur[i * 2 + 1]? = some (.slice none 0 0)) ∧
      (∀ i, i < l.length → ∀ k, SS i k → S k ∧ k < w.heap.size) ∧ (∀ i j, i < j → j < l.length → ∀ k, SS i k → ¬ SS j k) ∧ ∀ i t, l[i]? = some t → Ast w (SS i) t (ys i) (bs i) := by
  obtain ⟨ys, bs, SS, h1, h2, h3, h4, h5⟩ := h
  rcases ho.2 with ⟨rfl, h0⟩ | ⟨g, cap, cur, rfl, hg, hh, hcap, _, hsz, htk⟩
  · exact ⟨0, #[], none, 0, ys, bs, SS, by rw [h0], fun h => by omega, by omega, fun i hi => by omega, h3, h4, h5⟩
  · refine ⟨g, cur, _, cap, ys, bs, SS, rfl, fun _ => ⟨rfl, hg, rfl, heap_lt hh, hh⟩, hcap, fun i hi => ?_, h3, h4, h5⟩
    have key : ∀ j v, xs[j]? = some v → cur[j]? = some v := fun j v hv => by
      rw [← htk] at hv
      have hj : j < l.length * 2 := by
        have := (List.getElem?_eq_some_iff.1 hv).1
        simp at this
        omega
      rw [List.getElem?_take_of_lt hj] at hv
      simpa using hv
    exact ⟨key _ _ (h2 i hi).1, key _ _ (h2 i hi).2⟩
end Go.Proofs.YtlgajopaokjjaaaGreatFmt
namespace Go.Proofs.YtlgajopaokjjaaaGreatFmt
open Go.ChangeShapes Go.WideShapes Go.ChangeAt Go.RowKit Go.Joins

/-- One field: its cells, its name's block and its trees, all in blocks from lo to hi. -/
structure FOne (w : World) (S : Nat → Prop) (lo hi : Nat) (F : Fld) (S1 S2 : Nat → Prop) (t : Tr) (cell : Nat → Option Value) : Prop where
  row : (∃ c u, t = .mk 37 t.tx t.op t.fl [u] ∧ F.id = some c ∧ w.heap[c]? = some (.cells #[.string t.tx] 92) ∧ ∀ j v, (F.rowId t.op t.fl c)[j]? = some v → cell j = some v) ∨
    (∃ t1 t2, t = .mk 39 ByteArray.empty t.op t.fl [t1, t2] ∧ F.id = none ∧ ∀ j v, (F.rowStr t.op t.fl)[j]? = some v → cell j = some v)
  range : ∀ k, S1 k ∨ S2 k ∨ F.id = some k → lo ≤ k ∧ k < hi ∧ S k
  d12 : ∀ k, S1 k → ¬ S2 k
  did : ∀ k, F.id = some k → ¬ (S1 k ∨ S2 k)
  a1 : ∀ k op fl t1 t2, t = .mk k ByteArray.empty op fl [t1, t2] → Ast w S1 t1 F.y1 F.b1
  a2 : ∀ u, t.subs.getLast? = some u → Ast w S2 u F.y2 F.b2
theorem FOne.keep {w w' : World} {S T : Nat → Prop} {lo hi : Nat} {F : Fld} {S1 S2 : Nat → Prop} {t : Tr} {cell cell' : Nat → Option Value} (h : FOne w S lo hi F S1 S2 t cell) (hc : ∀ j, j < 18 → cell' j = cell j)
    (hhi : hi ≤ w.heap.size) (hT : ∀ k, S k → k < w.heap.size → T k) (hb : ∀ k, S k → k < w.heap.size → w'.heap[k]? = w.heap[k]?) : FOne w' T lo hi F S1 S2 t cell' where
  row := by
    rcases h.row with ⟨c, u, e, hi', hh, hr⟩ | ⟨t1, t2, e, hi', hr⟩
    · have hr' := h.range c (.inr (.inr hi'))
      exact .inl ⟨c, u, e, hi', (hb c hr'.2.2 (by omega)).trans hh, fun j v hv => by
        have hj : j < 18 := (List.getElem?_eq_some_iff.1 hv).1
        rw [hc j hj]; exact hr j v hv⟩
    · exact .inr ⟨t1, t2, e, hi', fun j v hv => by
        have hj : j < 18 := (List.getElem?_eq_some_iff.1 hv).1
        rw [hc j hj]; exact hr j v hv⟩
  range := fun k hk => by
    have := h.range k hk
    exact ⟨this.1, this.2.1, hT k this.2.2 (by omega)⟩
  d12 := h.d12
  did := h.did
  a1 := fun k op fl t1 t2 e => (h.a1 k op fl t1 t2 e).keep (fun _ h _ => h) (fun k hk hl => hb k (h.range k (.inl hk)).2.2 hl)
  a2 := fun u e => (h.a2 u e).keep (fun _ h _ => h) (fun k hk hl => hb k (h.range k (.inr (.inl hk))).2.2 hl)
/-- The cells of a row of fields. -/
def FElems (w : World) (S : Nat → Prop) (l : List Tr) (xs : List Value) : Prop :=
  ∃ (F : Nat → Fld) (S1 S2 : Nat → Nat → Prop) (R : Nat → Nat), xs.length = l.length * 18 ∧ (∀ i j, i ≤ j → j ≤ l.length → R i ≤ R j) ∧ R l.length ≤ w.heap.size ∧
    ∀ i t, l[i]? = some t → FOne w S (R i) (R (i + 1)) (F i) (S1 i) (S2 i) t (fun j => xs[i * 18 + j]?)
theorem felems_nil (w : World) (S : Nat → Prop) : FElems w S [] [] :=
  ⟨fun _ => ⟨0, 0, 0, 0, none, none, none, none, none, 0, 0, 0, 0⟩, fun _ _ => False, fun _ _ => False, fun _ => 0, rfl, fun _ _ _ _ => Nat.le_refl _, Nat.zero_le _, fun i t h => by simp at h⟩
theorem FElems.keep {w w' : World} {S T : Nat → Prop} {l : List Tr} {xs : List Value} (h : FElems w S l xs) (hT : ∀ k, S k → k < w.heap.size → T k) (hb : ∀ k, S k → k < w.heap.size → w'.heap[k]? = w.heap[k]?) (hz : w.heap.size ≤ w'.heap.size) : FElems w' T l xs := by
  obtain ⟨F, S1, S2, R, h1, h2, h3, h4⟩ := h
  refine ⟨F, S1, S2, R, h1, h2, Nat.le_trans h3 hz, fun i t ht => (h4 i t ht).keep (fun _ _ => rfl) ?_ hT hb⟩
  have hi := (List.getElem?_eq_some_iff.1 ht).1
  exact Nat.le_trans (h2 (i + 1) l.length (by omega) (Nat.le_refl _)) h3
theorem FElems.below {w w' : World} {S : Nat → Prop} {l : List Tr} {xs : List Value} (h : FElems w S l xs) (hb : Below w.heap.size w w') : FElems w' S l xs := h.keep (fun _ h _ => h) (fun k _ hk => hb.block k hk) hb.size
/-- One field more, in blocks that are new. -/
theorem FElems.push {w w' : World} {S : Nat → Prop} {l : List Tr} {xs row : List Value} {t : Tr} {F' : Fld} {S1' S2' : Nat → Prop} (h : FElems w S l xs) (hb : Below w.heap.size w w') (hr : row.length = 18) (hf : FOne w' S w.heap.size w'.heap.size F' S1' S2' t (fun j => row[j]?)) :
    FElems w' S (l ++ [t]) (xs ++ row) := by
  obtain ⟨F, S1, S2, R, h1, h2, h3, h4⟩ := h
  refine ⟨fun i => if i < l.length then F i else F', fun i => if i < l.length then S1 i else S1', fun i => if i < l.length then S2 i else S2', fun i => if i < l.length then R i else if i = l.length then w.heap.size else w'.heap.size, by simp [h1, hr]; omega, fun i j hij hj => ?_, ?_, fun i u hu => ?_⟩
  · dsimp only
    by_cases hi : i < l.length
    · rw [if_pos hi]
      by_cases hj' : j < l.length
      · rw [if_pos hj']; exact h2 i j hij (by omega)
      · rw [if_neg hj']
        have a1 := h2 i l.length (by omega) (Nat.le_refl _)
        have a2 := hb.size
        split <;> omega
    · rw [if_neg hi, if_neg (show ¬ j < l.length by omega)]
      have a2 := hb.size
      split <;> split <;> omega
  · have e : (l ++ [t]).length = l.length + 1 := by simp
    dsimp only
    rw [e, if_neg (by omega), if_neg (by omega)]
    exact Nat.le_refl _
  · by_cases hl : i < l.length
    · rw [List.getElem?_append_left hl] at hu
      have h5 := h4 i u hu
      simp only [if_pos hl]
      by_cases he : i + 1 < l.length
      · simp only [if_pos he]
        exact h5.keep (fun j hj => by rw [List.getElem?_append_left (by omega)]) (Nat.le_trans (h2 (i + 1) l.length (by omega) (Nat.le_refl _)) h3) (fun _ h _ => h) (fun k _ hk => hb.block k hk)
      · have e : i + 1 = l.length := by omega
        simp only [if_neg he, if_pos e]
        have h6 := h5.keep (cell' := fun j => (xs ++ row)[i * 18 + j]?) (T := S) (fun j hj => by rw [List.getElem?_append_left (by omega)]) (Nat.le_trans (h2 (i + 1) l.length (by omega) (Nat.le_refl _)) h3) (fun _ h _ => h) (fun k _ hk => hb.block k hk)
        have hle : R (i + 1) ≤ w.heap.size := by rw [e]; exact h3
        exact { row := h6.row, range := fun k hk => ⟨(h6.range k hk).1, by have := (h6.range k hk).2.1; omega, (h6.range k hk).2.2⟩, d12 := h6.d12, did := h6.did, a1 := h6.a1, a2 := h6.a2 }
    · have hi : i < l.length + 1 := by
        have := (List.getElem?_eq_some_iff.1 hu).1
        simpa using this
      have e : i = l.length := by omega
      subst e
      rw [List.getElem?_append_right (by omega)] at hu
      obtain rfl : t = u := by simpa using hu
      simp only [if_neg hl, if_neg (show ¬ l.length + 1 < l.length by omega), if_true, if_neg (show ¬ l.length + 1 = l.length by omega)]
      exact hf.keep (fun j hj => by rw [List.getElem?_append_right (by omega), h1, show l.length * 18 + j - l.length * 18 = j by omega]) (Nat.le_refl _) (fun _ h _ => h) (fun _ _ _ => rfl)
/-- An object out of its row of fields. -/
theorem FElems.object {w : World} {S : Nat → Prop} {l : List Tr} {xs : List Value} {b cap : Nat} {a : Option Addr} {T : Nat → Prop} (h : FElems w S l xs) (ho : w.ownsRow (b + 1) 155 18 (.slice a l.length cap) l.length xs) (hS : ∀ k, S k → b < k ∧ (Value.slice a l.length cap).ownBlock ≠ some k)
    (hT : ∀ k, b ≤ k → k < w.heap.size → T k)
    (hb : w.heap[b]? = some (.cells #[.slice a l.length cap, .slice none 0 0, .slice none 0 0, .pointer none, .slice none 0 0, .pointer none, .string ByteArray.empty, .int .i64 0, .int .i64 0, .int .i64 0, .int .i64 0, .bool false] 133)) :
    Ast w T (.mk 20 ByteArray.empty 0 false l) 128 b := by
  obtain ⟨F, S1, S2, R, h1, h2, h3, h4⟩ := h
  have hbl := heap_lt hb
  obtain ⟨g, cur, hg, hcap, key⟩ : ∃ (g : Nat) (cur : Array Value), (0 < l.length → a = some ⟨g, 0, none⟩ ∧ b < g ∧ g < w.heap.size ∧ w.heap[g]? = some (.cells cur 155)) ∧ l.length ≤ cap ∧ (∀ j v, xs[j]? = some v → cur[j]? = some v) := by
    rcases ho.2 with ⟨e, h0⟩ | ⟨g, cap', cur, e, hg, hh, hcap, _, hsz, htk⟩
    · injection e with e1 e2 e3
      exact ⟨0, #[], fun h => by omega, by omega, fun j v hv => by
        have h5 := (List.getElem?_eq_some_iff.1 hv).1
        omega⟩
    · injection e with e1 e2 e3
      refine ⟨g, cur, fun _ => ⟨e1, by omega, heap_lt hh, hh⟩, by omega, fun j v hv => ?_⟩
      rw [← htk] at hv
      have hj : j < l.length * 18 := by
        have := (List.getElem?_eq_some_iff.1 hv).1
        simp at this
        omega
      rw [List.getElem?_take_of_lt hj] at hv
      simpa using hv
  have one : ∀ i, i < l.length → ∃ t, l[i]? = some t := fun i hi => ⟨_, List.getElem?_eq_getElem hi⟩
  have up : ∀ i, i < l.length → R (i + 1) ≤ w.heap.size := fun i hi => Nat.le_trans (h2 (i + 1) l.length (by omega) (Nat.le_refl _)) h3
  have ng : ∀ k, S k → 0 < l.length → k ≠ g := fun k hk h0 e => by
    have := (hS k hk).2
    rw [(hg h0).1] at this
    exact this (by simp [Value.ownBlock, e])
  refine .object (S1 := S1) (S2 := S2) (F := F) b g cur none none none 0 0 0 cap false a (hT b (Nat.le_refl _) hbl) (fun h0 => ⟨(hg h0).1, hT g (by have := (hg h0).2.1; omega) (hg h0).2.2.1, by have := (hg h0).2.1; omega, (hg h0).2.2.2⟩) hcap (fun i t ht => ?_) (fun i hi k hk => ?_) (fun i hi k hk => ?_) (fun i j hij hj k hk hk' => ?_) (fun i j hij hj k hk hk' => ?_) hb (fun i k op fl t1 t2 ht => (h4 i _ ht).a1 k op fl t1 t2 rfl) (fun i t u ht hu => (h4 i t ht).a2 u hu)
  · have hi := (List.getElem?_eq_some_iff.1 ht).1
    rcases (h4 i t ht).row with ⟨c, u, e, hid, hh, hr⟩ | ⟨t1, t2, e, hid, hr⟩
    · have hrg := (h4 i t ht).range c (.inr (.inr hid))
      exact .inl ⟨c, u, e, hid, hT c (by have := (hS c hrg.2.2).1; omega) (by have := up i hi; omega), by have := (hS c hrg.2.2).1; omega, ng c hrg.2.2 (by omega), hh, fun j v hv => key _ v (hr j v hv)⟩
    · exact .inr ⟨t1, t2, e, hid, fun j v hv => key _ v (hr j v hv)⟩
  · obtain ⟨t, ht⟩ := one i hi
    have hrg := (h4 i t ht).range k (hk.imp id .inl)
    refine ⟨hT k (by have := (hS k hrg.2.2).1; omega) (by have := up i hi; omega), by have := (hS k hrg.2.2).1; omega, ng k hrg.2.2 (by omega), fun j hj e => ?_⟩
    obtain ⟨t', ht'⟩ := one j hj
    have hrg' := (h4 j t' ht').range k (.inr (.inr e))
    rcases Nat.lt_trichotomy i j with hij | hij | hij
    · have := h2 (i + 1) j (by omega) (by omega); omega
    · subst hij
      exact (h4 i t' ht').did k e hk
    · have := h2 (j + 1) i (by omega) (by omega); omega
  · obtain ⟨t, ht⟩ := one i hi
    exact (h4 i t ht).d12 k hk
  · obtain ⟨t, ht⟩ := one i (by omega)
    obtain ⟨t', ht'⟩ := one j hj
    have a1 := (h4 i t ht).range k (hk.imp id .inl)
    have a2 := (h4 j t' ht').range k (hk'.imp id .inl)
    have := h2 (i + 1) j (by omega) (by omega)
    omega
  · obtain ⟨t, ht⟩ := one i (by omega)
    obtain ⟨t', ht'⟩ := one j hj
    have a1 := (h4 i t ht).range k (.inr (.inr hk))
    have a2 := (h4 j t' ht').range k (.inr (.inr hk'))
    have := h2 (i + 1) j (by omega) (by omega)
    omega
end Go.Proofs.YtlgajopaokjjaaaGreatFmt
namespace Go.Proofs.YtlgajopaokjjaaaGreatFmt
/-- Brackets, indexes and fields with strings have what is below them, everywhere in a tree. -/
inductive Fit : Tr → Prop
  | mk (t : Tr) (h : (t.k = 28 → 0 < t.subs.length) ∧ (t.k = 15 → 1 < t.subs.length) ∧ (t.k = 39 → 1 < t.subs.length)) (hs : ∀ s ∈ t.subs, Fit s) : Fit t
theorem Fit.here {t : Tr} (h : Fit t) : (t.k = 28 → 0 < t.subs.length) ∧ (t.k = 15 → 1 < t.subs.length) ∧ (t.k = 39 → 1 < t.subs.length) := by cases h; assumption
theorem Fit.sub {t : Tr} (h : Fit t) : ∀ s ∈ t.subs, Fit s := by cases h; assumption
theorem ok_fit {t : Tr} (h : Ok t) : Fit t := by
  have no : ∀ {t : Tr}, t.k ≠ 28 → t.k ≠ 15 → t.k ≠ 39 → (∀ s ∈ t.subs, Fit s) → Fit t := fun h1 h2 h3 hs => .mk _ ⟨fun e => absurd e h1, fun e => absurd e h2, fun e => absurd e h3⟩ hs
  have leaf : ∀ tx op fl, Fit (.mk 4 tx op fl []) := fun tx op fl => no (by simp [Tr.k]) (by simp [Tr.k]) (by simp [Tr.k]) (by simp [Tr.subs])
  induction h with
  | null => exact no (by simp [Tr.k]) (by simp [Tr.k]) (by simp [Tr.k]) (by simp [Tr.subs])
  | boolean fl => exact no (by simp [Tr.k]) (by simp [Tr.k]) (by simp [Tr.k]) (by simp [Tr.subs])
  | number tx => exact no (by simp [Tr.k]) (by simp [Tr.k]) (by simp [Tr.k]) (by simp [Tr.subs])
  | str tx op h0 h4 => exact leaf tx op false
  | self => exact no (by simp [Tr.k]) (by simp [Tr.k]) (by simp [Tr.k]) (by simp [Tr.subs])
  | dollar => exact no (by simp [Tr.k]) (by simp [Tr.k]) (by simp [Tr.k]) (by simp [Tr.subs])
  | var tx => exact no (by simp [Tr.k]) (by simp [Tr.k]) (by simp [Tr.k]) (by simp [Tr.subs])
  | unary op t1 h0 h4 a1 ih1 => exact no (by simp [Tr.k]) (by simp [Tr.k]) (by simp [Tr.k]) (by simpa [Tr.subs] using ih1)
  | binary op t1 t2 h0 h4 a1 a2 ih1 ih2 => exact no (by simp [Tr.k]) (by simp [Tr.k]) (by simp [Tr.k]) (by simpa [Tr.subs] using ⟨ih1, ih2⟩)
  | if2 t1 t2 a1 a2 ih1 ih2 => exact no (by simp [Tr.k]) (by simp [Tr.k]) (by simp [Tr.k]) (by simpa [Tr.subs] using ⟨ih1, ih2⟩)
  | if3 t1 t2 t3 a1 a2 a3 ih1 ih2 ih3 => exact no (by simp [Tr.k]) (by simp [Tr.k]) (by simp [Tr.k]) (by simpa [Tr.subs] using ⟨ih1, ih2, ih3⟩)
  | brace t1 t2 a1 a2 ih1 ih2 => exact no (by simp [Tr.k]) (by simp [Tr.k]) (by simp [Tr.k]) (by simpa [Tr.subs] using ⟨ih1, ih2⟩)
  | index t1 t2 a1 a2 ih1 ih2 => exact .mk _ (by simp [Tr.k, Tr.subs]) (by simpa [Tr.subs] using ⟨ih1, ih2⟩)
  | dot tx t1 a1 ih1 => exact no (by simp [Tr.k]) (by simp [Tr.k]) (by simp [Tr.k]) (by simpa [Tr.subs] using ih1)
  | error t1 a1 ih1 => exact no (by simp [Tr.k]) (by simp [Tr.k]) (by simp [Tr.k]) (by simpa [Tr.subs] using ih1)
  | parens t1 a1 ih1 => exact .mk _ (by simp [Tr.k, Tr.subs]) (by simpa [Tr.subs] using ih1)
  | apply t1 l hl a1 aa ih1 iha =>
    refine no (by simp [Tr.k]) (by simp [Tr.k]) (by simp [Tr.k]) fun s hs => ?_
    rcases List.mem_cons.1 (show s ∈ t1 :: l.map _ from hs) with rfl | hs
    · exact ih1
    · obtain ⟨t, ht, rfl⟩ := List.mem_map.1 hs
      exact no (by simp [Tr.k]) (by simp [Tr.k]) (by simp [Tr.k]) (by simpa [Tr.subs] using iha t ht)
  | array l hl aa iha => exact no (by simp [Tr.k]) (by simp [Tr.k]) (by simp [Tr.k]) iha
  | object l hl hf aa iha =>
    refine no (by simp [Tr.k]) (by simp [Tr.k]) (by simp [Tr.k]) fun s hs => ?_
    rcases (hf s hs).2.2 with ⟨t, ht⟩ | ⟨tx, o, t, _, ht⟩
    · have h1 : s.subs = [t] := by rw [ht]; rfl
      refine no (by rw [ht]; simp [Tr.k]) (by rw [ht]; simp [Tr.k]) (by rw [ht]; simp [Tr.k]) fun u hu => ?_
      rw [h1] at hu
      obtain rfl : u = t := by simpa using hu
      exact iha s hs u (by rw [h1]; rfl)
    · have h1 : s.subs = [.mk 4 tx o false [], t] := by rw [ht]; rfl
      have hk : s.k = 39 := by rw [ht]; rfl
      refine .mk _ ⟨fun e => by omega, fun e => by omega, fun _ => by rw [h1]; simp⟩ fun u hu => ?_
      rw [h1] at hu
      simp only [List.mem_cons, List.not_mem_nil, or_false] at hu
      rcases hu with rfl | rfl
      · exact leaf _ _ _
      · exact iha s hs u (by rw [h1]; rfl)
end Go.Proofs.YtlgajopaokjjaaaGreatFmt
namespace Go.Proofs.YtlgajopaokjjaaaGreatFmt
open Go.ChangeShapes Go.WideShapes Go.ChangeAt Go.RowKit Go.Joins

/-- Some truth value. -/
def IsBool (e : Ending) : Prop := ∃ r : Bool, e = .returned (.bool r)
theorem fits6_any (k op : Int) (tx : ByteArray) (fl : Bool) (a : Option Addr) (n c : Nat) (w : World) :
    Calls Tryz.prog 4 #[.agg #[.int .i64 k, .string tx, .int .i64 op, .bool fl, .slice a n c]] w fun e w' => IsBool e ∧ Below w.heap.size w w' := by
  go_enter Tryz.func4, Tryz.ntmps4
  go_wp2
  all_goals
    go_ret
    exact ⟨⟨_, rfl⟩, below_alloc1 _ _⟩
end Go.Proofs.YtlgajopaokjjaaaGreatFmt
namespace Go.Proofs.YtlgajopaokjjaaaGreatFmt
open Go.ChangeShapes Go.WideShapes Go.ChangeAt Go.RowKit Go.Joins Go.Deep

section
variable {H : Type} {enc : TypeId × Value → H} {P : Program} {w : World} {base : Nat} {spare : Nat → Bool} {held : Bool}
theorem open_slice_fields {t e : TypeId} {fs : Array Field} {fuel : Nat} {cs : List Value} {x : DataW H × List MemPlace} (ht : P.underlying t = some (.slice e)) (he : P.underlying e = some (.struct fs))
    (hone : oneCellFields P fs = true) (hC : P.cellsOf e = fs.size) (h : DataW.trod enc P w base spare held fuel t cs = some x) :
    (cs = [.slice none 0 0] ∧ x = (.nil, [])) ∨
    ∃ (a : Addr) (len cap m : Nat) (D : Nat → DataW H) (Pl : Nat → List MemPlace), cs = [.slice (some a) len cap] ∧ base ≤ a.block ∧ len ≤ cap ∧ cap ≤ maxLen ∧ m = (if spare a.block then cap else len) ∧
      x = (.slice ((List.range len).map D) ((List.range (m - len)).map fun j => D (len + j)), MemPlace.row a (m * fs.size) ++ (List.range m).flatMap Pl) ∧
      ∀ i, i < m → ∃ (ys : List (DataW H × List MemPlace)) (n : Nat), D i = .agg (ys.map (·.1)) ∧ Pl i = ys.flatMap (·.2) ∧ ys.length = fs.size ∧
        ∀ (j : Nat) (f : Field), fs[j]? = some f → ∃ (v : Value) (y : DataW H × List MemPlace), w.cell? (a.add (i * fs.size + j)) = some v ∧ ys[j]? = some y ∧ DataW.trod enc P w base spare held n f.type [v] = some y := by
  rcases open_slice ht h with h0 | ⟨a, len, cap, m, n, D, Pl, hcs, hb, hl, hm, hmm, hx, hi⟩
  · exact .inl h0
  · refine .inr ⟨a, len, cap, m, D, Pl, hcs, hb, hl, hm, hmm, by rw [hC] at hx; exact hx, fun i him => ?_⟩
    obtain ⟨cs', hc, ht'⟩ := hi i him
    rw [hC] at hc
    obtain ⟨ys, n', hn', hy, hlen, hyl, hf⟩ := DataW.trod_struct he ht'
    obtain ⟨_, hcl, hat⟩ := World.cells?_some hc
    simp only [Prod.mk.injEq] at hy
    refine ⟨ys, n', hy.1, hy.2, hyl, fun j f hj => ?_⟩
    obtain ⟨ho, hk⟩ := hone_of hone j f hj
    have hjl : j < fs.size := (Array.getElem?_eq_some_iff.1 hj).1
    have hcell := hat j hjl
    have hv : cs'[j]? = some (cs'[j]'(by omega)) := List.getElem?_eq_getElem (by omega)
    have h1 := hf j f hj
    rw [ho, hk] at h1
    have hone' : (cs'.drop j).take 1 = [cs'[j]'(by omega)] := by
      rw [List.drop_eq_getElem_cons (by omega)]
      rfl
    rw [hone'] at h1
    have hys : ys[j]? = some (ys[j]'(by omega)) := List.getElem?_eq_getElem (by omega)
    refine ⟨_, _, ?_, hys, h1.trans hys⟩
    rw [← Go.Deep.add_add, hcell, hv]
theorem weightsAll_mem {e : TypeId} : ∀ {l : List (DataW H)} {d : DataW H} {n : Nat}, d ∈ l → n ∈ d.weights P e → n ∈ DataW.weightsAll P e l
  | [], _, _, hd, _ => by cases hd
  | x :: l, d, n, hd, hn => by
    simp only [DataW.weightsAll, List.mem_append]
    rcases List.mem_cons.1 hd with rfl | hd
    · exact .inl hn
    · exact .inr (weightsAll_mem hd hn)
end

theorem collect {α : Type} {R : Nat → α → Prop} : ∀ {n : Nat}, (∀ i, i < n → ∃ x, R i x) → ∃ l : List α, l.length = n ∧ ∀ i x, l[i]? = some x → R i x
  | 0, _ => ⟨[], rfl, fun i x h => by simp at h⟩
  | n + 1, h => by
    obtain ⟨l, hl, hr⟩ := collect (n := n) fun i hi => h i (by omega)
    obtain ⟨x, hx⟩ := h n (by omega)
    refine ⟨l ++ [x], by simp [hl], fun i y hy => ?_⟩
    by_cases e : i = n
    · subst e
      have : y = x := by
        rw [List.getElem?_append_right (by omega)] at hy
        simpa [hl, eq_comm] using hy
      exact this ▸ hx
    · have hlt : i < n + 1 := by
        have := (List.getElem?_eq_some_iff.1 hy).1
        simpa [hl] using this
      rw [List.getElem?_append_left (by omega)] at hy
      exact hr i y hy

set_option maxRecDepth 100000 in
theorem fieldsNode : ∃ fs : Array Field, Tryz.prog.underlying 24 = some (.struct fs) ∧ oneCellFields Tryz.prog fs = true ∧ Tryz.prog.cellsOf 24 = fs.size ∧ fs.size = 5 ∧ (fs.map Field.type) = #[3, 9, 3, 4, 22] :=
  ⟨_, Tryz.underlying24, by kernel_rfl, by kernel_rfl, rfl, by simp⟩
set_option maxRecDepth 100000 in
theorem bytesNode : Tryz.prog.bytesOf 24 = 64 := by kernel_rfl
theorem data_string {l : List UInt8} {s : ByteArray} (h : (Lit.string s.data.toList) = .string l) : s.data.toList = l := by injection h
theorem open_subs {H : Type} {enc : TypeId × Value → H} {W : World} {base : Nat} {sp : Nat → Bool} {held : Bool} : ∀ (k : Nat) {fuel : Nat} {v : Value} {x : DataW H × List MemPlace}, SizeOf.sizeOf x.1 ≤ k →
    DataW.trod enc Tryz.prog W base sp held fuel 22 [v] = some x → (∀ m ∈ x.1.weights Tryz.prog 22, m ≤ reachBytes) → ∃ l : List Tr, Subs W (fun _ => True) l v ∧ l.length ≤ 2199023255488 ∧ ∀ t ∈ l, Bnd 2199023255488 t := by
  intro k
  induction k with
  | zero =>
    intro fuel v x hk
    exfalso
    cases hx : x.1 <;> rw [hx] at hk <;> simp at hk
  | succ k ih =>
    intro fuel v x hk h hw
    obtain ⟨fs, hu, hone, hC, hn, hty⟩ := fieldsNode
    rcases open_slice_fields Tryz.underlying22 hu hone hC h with ⟨e, _⟩ | ⟨a, len, cap, m, D, Pl, e, hb, hlc, hcm, hm, rfl, hi⟩
    · obtain rfl : v = .slice none 0 0 := by simpa using e
      exact ⟨[], .none _ _, by simp, by simp⟩
    · obtain rfl : v = .slice (some a) len cap := by simpa using e
      have hlen : len ≤ m := by rw [hm]; split <;> omega
      rw [hn] at hi
      have ty : ∀ (j : Nat) (t : TypeId), #[3, 9, 3, 4, 22][j]? = some t → ∃ f : Field, fs[j]? = some f ∧ f.type = t := by
        intro j t hj
        rw [← hty, Array.getElem?_map] at hj
        obtain ⟨f, hf, e⟩ := Option.map_eq_some_iff.1 hj
        exact ⟨f, hf, e⟩
      have hml : len ≤ 2199023255488 := by
        have := hw ((len + (m - len)) * 64) (by simp [DataW.weights, Tryz.underlying22, bytesNode])
        unfold reachBytes at this
        omega
      have one : ∀ i, i < len → ∃ p : Tr × Value, (Subs W (fun _ => True) p.1.subs p.2 ∧ Bnd 2199023255488 p.1) ∧ ∀ r c, (nV p.1 p.2)[r]? = some c → W.cell? (a.add (i * 5 + r)) = some c := by
        intro i hil
        obtain ⟨ys, n, hD, _, hyl, hf⟩ := hi i (by omega)
        obtain ⟨f0, g0, t0⟩ := ty 0 3 rfl
        obtain ⟨f1, g1, t1⟩ := ty 1 9 rfl
        obtain ⟨f2, g2, t2⟩ := ty 2 3 rfl
        obtain ⟨f3, g3, t3⟩ := ty 3 4 rfl
        obtain ⟨f4, g4, t4⟩ := ty 4 22 rfl
        obtain ⟨v0, y0, c0, _, k0⟩ := hf 0 f0 g0
        obtain ⟨v1, y1, c1, _, k1⟩ := hf 1 f1 g1
        obtain ⟨v2, y2, c2, _, k2⟩ := hf 2 f2 g2
        obtain ⟨v3, y3, c3, _, k3⟩ := hf 3 f3 g3
        obtain ⟨v4, y4, c4, z4, k4⟩ := hf 4 f4 g4
        rw [t0] at k0
        rw [t1] at k1
        rw [t2] at k2
        rw [t3] at k3
        rw [t4] at k4
        obtain ⟨a0, e0, _, _⟩ := DataW.trod_int Tryz.underlying3 k0
        obtain ⟨a1, e1, _, _⟩ := DataW.trod_string Tryz.underlying9 k1
        obtain ⟨a2, e2, _, _⟩ := DataW.trod_int Tryz.underlying3 k2
        obtain ⟨a3, e3, _⟩ := DataW.trod_bool Tryz.underlying4 k3
        simp at e0 e1 e2 e3
        subst e0 e1 e2 e3
        have hDm : D i ∈ (List.range len).map D := List.mem_map.2 ⟨i, List.mem_range.2 hil, rfl⟩
        have hym : y4.1 ∈ ys.map (·.1) := List.mem_map.2 ⟨y4, List.mem_of_getElem? z4, rfl⟩
        have hs1 : SizeOf.sizeOf (D i) < SizeOf.sizeOf ((List.range len).map D) := List.sizeOf_lt_of_mem hDm
        have hs2 : SizeOf.sizeOf y4.1 < SizeOf.sizeOf (ys.map (·.1)) := List.sizeOf_lt_of_mem hym
        have hs3 : SizeOf.sizeOf (D i) = 1 + SizeOf.sizeOf (ys.map (·.1)) := by rw [hD]; simp
        obtain ⟨l', h1, h2, h3⟩ := ih (x := y4) (by simp at hk; omega) k4 (fun m hm' => hw m (by
          simp only [DataW.weights, Tryz.underlying22, List.mem_cons, List.mem_append]
          refine .inr (.inl (weightsAll_mem hDm ?_))
          rw [hD]
          simp only [DataW.weights, hu]
          refine DataW.weights_mem_each (j := 4) (t := 22) (d := y4.1) ?_ ?_ m hm'
          · have : fs.toList[4]? = some f4 := by simpa using g4
            rw [List.getElem?_map, this, ← t4]; rfl
          · rw [List.getElem?_map, z4]; rfl))
        refine ⟨(.mk a0 a1 a2 a3 l', v4), ⟨h1, .mk _ h2 h3⟩, fun r c hr => ?_⟩
        match r, hr with
        | 0, hr => obtain rfl : _ = c := by simpa [nV] using hr
                   exact c0
        | 1, hr => obtain rfl : _ = c := by simpa [nV] using hr
                   exact c1
        | 2, hr => obtain rfl : _ = c := by simpa [nV] using hr
                   exact c2
        | 3, hr => obtain rfl : _ = c := by simpa [nV] using hr
                   exact c3
        | 4, hr => obtain rfl : _ = c := by simpa [nV] using hr
                   exact c4
        | r + 5, hr => simp [nV] at hr
      obtain ⟨l, hl, hr⟩ := collect one
      rcases Nat.eq_zero_or_pos len with h0 | h0
      · subst h0
        exact ⟨[], .none _ _, by simp, by simp⟩
      have h0' : 0 < l.length := by omega
      have first := (hr 0 l[0] (List.getElem?_eq_getElem h0')).2 0 _ rfl
      obtain ⟨b, off, spot⟩ := a
      have hspot : spot = none := by simpa [Addr.add] using World.cell?_spot first
      subst hspot
      have hadd : ∀ j, (⟨b, off, none⟩ : Addr).add j = ⟨b, off + j, none⟩ := fun j => by unfold Addr.add; split <;> simp_all
      have hlm : (l.map Prod.fst).length = len := by simp [hl]
      have hget : ∀ (i : Nat) (t : Tr), (l.map Prod.fst)[i]? = some t → ∃ u : Value, l[i]? = some (t, u) := by
        intro i t ht
        rw [List.getElem?_map] at ht
        obtain ⟨p, hp, rfl⟩ := Option.map_eq_some_iff.1 ht
        exact ⟨p.2, hp⟩
      refine ⟨l.map Prod.fst, ?_, by omega, fun t ht => ?_⟩
      · rw [← hlm]
        refine .row _ b off cap (fun i => ((l[i]?).map Prod.snd).getD undef) (by omega) (by omega) trivial (fun i t ht j c hj => ?_) (fun i t ht => ?_)
        · obtain ⟨u, hu'⟩ := hget i t ht
          have := (hr i _ hu').2 j c (by simpa [hu'] using hj)
          rwa [hadd] at this
        · obtain ⟨u, hu'⟩ := hget i t ht
          simpa [hu'] using (hr i _ hu').1.1
      · obtain ⟨p, hp, rfl⟩ := List.mem_map.1 ht
        obtain ⟨i, hi⟩ := List.getElem?_of_mem hp
        exact (hr i p hi).1.2

set_option maxRecDepth 100000 in
/-- An argument that is a node. -/
theorem open_node {H : Type} {enc : TypeId × Value → H} {W : World} {base : Nat} {v : Value} {d : DataW H} {ps : List MemPlace}
    (hv : Value.okWide Tryz.prog W .any base 24 v) (h : DataW.Trod enc Tryz.prog W 0 (fun _ => true) true 24 v d ps) (hw : ∀ m ∈ d.weights Tryz.prog 24, m ≤ reachBytes) :
    ∃ (t : Tr) (u : Value), v = .agg #[.int .i64 t.k, .string t.tx, .int .i64 t.op, .bool t.fl, u] ∧ Subs W (fun _ => True) t.subs u ∧ Bnd 2199023255488 t := by
  obtain ⟨cs, rfl, hsz⟩ := okWide_struct Tryz.underlying24 hv
  obtain ⟨fs, hu, hone, hC, hn, hty⟩ := fieldsNode
  have ty : ∀ (j : Nat) (t : TypeId), #[3, 9, 3, 4, 22][j]? = some t → ∃ f : Field, fs[j]? = some f ∧ f.type = t := by
    intro j t hj
    rw [← hty, Array.getElem?_map] at hj
    obtain ⟨f, hf, e⟩ := Option.map_eq_some_iff.1 hj
    exact ⟨f, hf, e⟩
  obtain ⟨fuel, hf⟩ := h
  obtain ⟨ys, n, _, hx, hlen, hyl, hfl⟩ := DataW.trod_struct hu hf
  simp only [Prod.mk.injEq] at hx
  obtain ⟨f0, g0, t0⟩ := ty 0 3 rfl
  obtain ⟨f1, g1, t1⟩ := ty 1 9 rfl
  obtain ⟨f2, g2, t2⟩ := ty 2 3 rfl
  obtain ⟨f3, g3, t3⟩ := ty 3 4 rfl
  obtain ⟨f4, g4, t4⟩ := ty 4 22 rfl
  have hc5 : cs.size = 5 := by rw [hsz, hC, hn]
  obtain ⟨c0, c1, c2, c3, c4, rfl⟩ : ∃ c0 c1 c2 c3 c4, cs = #[c0, c1, c2, c3, c4] := by
    rcases cs with ⟨l⟩
    match l, hc5 with
    | [a, b, c, d, e], _ => exact ⟨a, b, c, d, e, rfl⟩
  have cell : ∀ (j : Nat) (f : Field) (c : Value), fs[j]? = some f → [c0, c1, c2, c3, c4][j]? = some c → ∃ y, ys[j]? = some y ∧ DataW.trod enc Tryz.prog W 0 (fun _ => true) true n f.type [c] = some y := by
    intro j f c hj hc
    obtain ⟨ho, hk⟩ := hone_of hone j f hj
    have h1 := hfl j f hj
    rw [ho, hk] at h1
    have hjl : j < fs.size := (Array.getElem?_eq_some_iff.1 hj).1
    have hys : ys[j]? = some (ys[j]'(by omega)) := List.getElem?_eq_getElem (by omega)
    refine ⟨_, hys, ?_⟩
    rw [hys] at h1
    rw [← h1]
    congr 1
    have hjc := (List.getElem?_eq_some_iff.1 hc)
    obtain ⟨hjc, e⟩ := hjc
    show [c] = (List.drop j [c0, c1, c2, c3, c4]).take 1
    rw [List.drop_eq_getElem_cons hjc, e]
    rfl
  obtain ⟨y0, _, k0⟩ := cell 0 f0 c0 g0 rfl
  obtain ⟨y1, _, k1⟩ := cell 1 f1 c1 g1 rfl
  obtain ⟨y2, _, k2⟩ := cell 2 f2 c2 g2 rfl
  obtain ⟨y3, _, k3⟩ := cell 3 f3 c3 g3 rfl
  obtain ⟨y4, z4, k4⟩ := cell 4 f4 c4 g4 rfl
  rw [t0] at k0
  rw [t1] at k1
  rw [t2] at k2
  rw [t3] at k3
  rw [t4] at k4
  obtain ⟨a0, e0, _, _⟩ := DataW.trod_int Tryz.underlying3 k0
  obtain ⟨a1, e1, _, _⟩ := DataW.trod_string Tryz.underlying9 k1
  obtain ⟨a2, e2, _, _⟩ := DataW.trod_int Tryz.underlying3 k2
  obtain ⟨a3, e3, _⟩ := DataW.trod_bool Tryz.underlying4 k3
  simp at e0 e1 e2 e3
  subst e0 e1 e2 e3
  obtain ⟨l', h1, h2, h3⟩ := open_subs _ (x := y4) (Nat.le_refl _) k4 (fun m hm' => hw m (by
    rw [hx.1]
    simp only [DataW.weights, hu]
    refine DataW.weights_mem_each (j := 4) (t := 22) (d := y4.1) ?_ ?_ m hm'
    · have : fs.toList[4]? = some f4 := by simpa using g4
      rw [List.getElem?_map, this, ← t4]; rfl
    · rw [List.getElem?_map, z4]; rfl))
  exact ⟨.mk a0 a1 a2 a3 l', c4, rfl, h1, .mk _ h2 h3⟩
end Go.Proofs.YtlgajopaokjjaaaGreatFmt
namespace Go.Proofs.YtlgajopaokjjaaaGreatFmt
open Go.ChangeShapes Go.WideShapes Go.ChangeAt Go.RowKit Go.Joins Go.Extern.Stop Go.Stop Go.Extern

theorem progStops : Tryz.pinned.checked.prog.stops = ["fmt.Sprintf"] := by kernel_rfl
theorem progStopKnobs : Tryz.pinned.checked.prog.stopKnobs = [] := by kernel_rfl
theorem progQuiet (os : Os) : Stop.quiet Tryz.pinned.checked.prog os := by
  intro k hk
  rw [progStopKnobs] at hk
  cases hk

theorem told_lift {H : Type} {enc : TypeId × Value → H} {C : Checked} {os : Os} {f : FuncId} {fn : Func} {s : ChangeSpec} {tb : TypeId} (n : Nat)
    (enter : C.prog.mayEnter = true) (own : ownKnob C.prog.godebug = none) (started : os.Started) (noInit : C.prog.inits.idxOf? f = none) (hfn : C.prog.funcs[f]? = some fn)
    (witness : ∀ F : Stop.Interp, ∃ (w : World) (tape : Tape) (i : Input), w.os = os ∧ (w.forCall tape i).Shaped C.prog ∧ i.vars = [] ∧ Input.okWide C.prog (w.forCall tape i) .any w.heap.size f i ∧
      (OpenSpec.ofChange s).preRow enc C.prog fn [] false [] (w.forCall tape i).memory i.args ∧ ({} : Assume).holds C.prog (lone (Frame.enter C.prog f i.args .normal) [] (w.forCall tape i)) ∧ F.answers tape)
    (hl : laidOutB C.prog = true) (hvars : s.vars = []) (hrt : fn.resultTypes = #[tb]) (hb : C.prog.underlying tb = some .bool)
    (hr : ∀ t ∈ fn.params.toList, C.prog.readableRec t = true ∧ t < C.prog.types.size)
    (hn : fn.params.toList.length = n)
    (hs : ∀ ds : List (DataW H), ds.length = n → s.fn H ds = { results := [.lit (.bool true)], args := ds })
    (walk : ∀ (W : World) (base : Nat) (args : Array Value) (ds : List (DataW H)) (ps : List MemPlace),
      (∀ (j : Nat) t v, fn.params[j]? = some t → args[j]? = some v → Value.okWide C.prog W .any base t v) →
      DataW.TrodAll enc C.prog W 0 (fun _ => true) true fn.params.toList args.toList ds ps →
      (∀ x ∈ ps, x.block < W.heap.size) →
      (DataW.weightsEach C.prog fn.params.toList ds).all (· ≤ reachBytes) = true →
      Calls C.prog f args W fun e W' => e = .returned (.bool true) ∧ Below W.heap.size W W') :
    ReturnsInTold none {} C os f .any Input.okWide ((OpenSpec.ofChange s).preRow enc C.prog fn [] false []) (fun F => ((OpenSpec.ofChange s).at F).post enc C.prog fn false true false false) (aloneAtReturn C.prog) nothingAlways := by
  refine returnsInTold_of_row enter own started noInit hfn witness ?_
  intro F W base args ds gs before _ hF hval hW _ _ hsz _ _
  have hW' : DataW.Whole enc C.prog fn.params.toList s.vars false W args.toList ds gs before := hW
  obtain ⟨p, hA, rfl, rfl⟩ : ∃ p, DataW.TrodAll enc C.prog W 0 (fun _ => true) true fn.params.toList args.toList ds p ∧ gs = [] ∧ before = p := by
    obtain ⟨p, q, hA, hV, e, hfz, hnd⟩ := hW'
    rw [hvars] at hV
    obtain ⟨e1, rfl⟩ := trodVars_none hV
    exact ⟨p, hA, e1, by simpa using e⟩
  have hsz' : (DataW.weightsEach C.prog fn.params.toList ds).all (· ≤ reachBytes) = true := by
    have e : (OpenSpec.ofChange s).bare.plain.varTypes C.prog = [] := by
      show s.vars.filterMap _ = []
      rw [hvars]; rfl
    rw [e] at hsz
    simpa using hsz
  refine (walk W base args ds _ hval hA (fun x hx => hW'.lt x hx) hsz').mono fun e W' ⟨he, hg⟩ => ?_
  exact ⟨_, he, law_post hl hvars hrt hb hr (hs ds (by rw [← hn]; exact trodAll_length hA)) hW' hg⟩

end Go.Proofs.YtlgajopaokjjaaaGreatFmt
