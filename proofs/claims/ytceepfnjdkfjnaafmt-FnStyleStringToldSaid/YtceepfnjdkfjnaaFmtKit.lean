/-
  What every law of this seat shares: a law that returns true and leaves all old memory as it was, in every world that its arguments read in, holds as its row says. Conditions: none beyond those that the theorems name.
-/
import Derived.Test.YtceepfnjdkfjnaaFmtRows
import Derived.WalkKit
import Derived.ProofKit
import Derived.SizedLaws
import Derived.OpenShut
import Derived.Lib.SmallJoins
import Derived.Outline
import Derived.BigQuiet
import Derived.Deep.QuietTactic
import Derived.WalkSpells
import Derived.WalkLawsBesides
import Derived.Lib.Hide
import Derived.Deep.RegionHeld3
import Derived.Deep.Quiet
import Derived.Deep.DeepCutAuto
namespace Go.Proofs.YtceepfnjdkfjnaaFmt
open Go.ChangeShapes Go.WideShapes Go.ChangeAt Go.RowKit Go.Joins

theorem own : ownKnob Tryf.prog.godebug = none := by kernel_rfl
theorem laidOut : laidOutB Tryf.prog = true := by kernel_rfl

section
variable {H : Type} {enc : TypeId × Value → H} {P : Program}

theorem trodAll_below (hl : laidOutB P = true) {W W' : World} (hb : Below W.heap.size W W') : ∀ {ts : List TypeId} {vs : List Value} {ds : List (DataW H)} {ps : List MemPlace},
    (∀ t ∈ ts, P.readableRec t = true ∧ t < P.types.size) → DataW.TrodAll enc P W 0 (fun _ => true) true ts vs ds ps → (∀ x ∈ ps, x.block < W.heap.size) →
    DataW.TrodAll enc P W' 0 (fun b => decide (b < W.heap.size)) true ts vs ds ps := by
  intro ts
  induction ts with
  | nil =>
    intro vs ds ps _ h _
    cases vs with
    | nil => cases ds with
      | nil => exact h
      | cons d ds => exact absurd h (by intro k; cases k)
    | cons v vs => exact absurd h (by intro k; cases k)
  | cons t ts ih =>
    intro vs ds ps hr h hlt
    cases vs with
    | nil => exact absurd h (by intro k; cases k)
    | cons v vs => cases ds with
      | nil => exact absurd h (by intro k; cases k)
      | cons d ds =>
        obtain ⟨p, q, hd, hrest, rfl⟩ := h
        exact ⟨p, q, Below.trod hl (hr t (by simp)).1 (hr t (by simp)).2 hd hb (fun x hx => hlt x (by simp [hx])),
          ih (fun t' ht' => hr t' (by simp [ht'])) hrest (fun x hx => hlt x (by simp [hx])), rfl⟩

theorem trodAll_length {W : World} : ∀ {ts : List TypeId} {vs : List Value} {ds : List (DataW H)} {ps : List MemPlace}, DataW.TrodAll enc P W 0 (fun _ => true) true ts vs ds ps → ds.length = ts.length := by
  intro ts
  induction ts with
  | nil =>
    intro vs ds ps h
    cases vs with
    | nil => cases ds with
      | nil => rfl
      | cons d ds => exact absurd h (by intro k; cases k)
    | cons v vs => exact absurd h (by intro k; cases k)
  | cons t ts ih =>
    intro vs ds ps h
    cases vs with
    | nil => exact absurd h (by intro k; cases k)
    | cons v vs => cases ds with
      | nil => exact absurd h (by intro k; cases k)
      | cons d ds =>
        obtain ⟨p, q, hd, hrest, rfl⟩ := h
        simp [ih hrest]

theorem law_post {fn : Func} {s : ChangeSpec} {W W' : World} {args : Array Value} {ds gs : List (DataW H)} {before : List MemPlace} {tb : TypeId}
    (hl : laidOutB P = true) (hvars : s.vars = []) (hrt : fn.resultTypes = #[tb]) (hb : P.underlying tb = some .bool)
    (hr : ∀ t ∈ fn.params.toList, P.readableRec t = true ∧ t < P.types.size)
    (hs : s.fn H ds = { results := [.lit (.bool true)], args := ds })
    (hW : DataW.Whole enc P fn.params.toList s.vars false W args.toList ds gs before) (hbel : Below W.heap.size W W') :
    s.post enc P fn false true false false W args (.bool true) W' := by
  have hW' := hW
  obtain ⟨p, q, hA, hV, rfl, hfz, hnd⟩ := hW
  rw [hvars] at hV
  obtain ⟨rfl, rfl⟩ := trodVars_none hV
  simp only [List.append_nil] at hW'
  refine ⟨ds, [], _, [], p, [], hW', ?_, ?_, ?_, hbel.frame _, fun h => by cases h⟩
  · rw [List.append_nil, hs, hrt]
    exact trodAll_mk1 (shut_bool hb true)
  · rw [List.append_nil, hs]
    exact trodAll_below hl hbel hr hA (fun x hx => by have := hW'.lt x hx; exact this)
  · rw [List.append_nil, hs, hvars]
    rfl

theorem law_lift {C : Checked} {os : Os} {f : FuncId} {fn : Func} {s : ChangeSpec} {tb : TypeId} (n : Nat)
    (own : ownKnob C.prog.godebug = none) (started : os.Started) (noInit : C.prog.inits.idxOf? f = none) (hfn : C.prog.funcs[f]? = some fn)
    (witness : ∃ (w : World) (tape : Tape) (i : Input), w.os = os ∧ (w.forCall tape i).Shaped C.prog ∧ i.vars = [] ∧ Input.okWide C.prog (w.forCall tape i) .any w.heap.size f i ∧
      s.pre6 enc C.prog fn [] false (w.forCall tape i).memory i.args ∧ ({} : Assume).holds C.prog (lone (Frame.enter C.prog f i.args .normal) [] (w.forCall tape i)))
    (hl : laidOutB C.prog = true) (hvars : s.vars = []) (hrt : fn.resultTypes = #[tb]) (hb : C.prog.underlying tb = some .bool)
    (hr : ∀ t ∈ fn.params.toList, C.prog.readableRec t = true ∧ t < C.prog.types.size)
    (hn : fn.params.toList.length = n)
    (hs : ∀ ds : List (DataW H), ds.length = n → s.fn H ds = { results := [.lit (.bool true)], args := ds })
    (walk : ∀ (W : World) (base : Nat) (args : Array Value) (ds : List (DataW H)) (ps : List MemPlace),
      (∀ (j : Nat) t v, fn.params[j]? = some t → args[j]? = some v → Value.okWide C.prog W .any base t v) →
      DataW.TrodAll enc C.prog W 0 (fun _ => true) true fn.params.toList args.toList ds ps →
      (∀ x ∈ ps, x.block < W.heap.size) →
      (DataW.weightsEach C.prog fn.params.toList ds).all (· ≤ reachBytes) = true →
      Calls C.prog f args W fun e W' => e = .returned (.bool true) ∧ Below W.heap.size W W') :
    ReturnsInHanded {} C os f .any (s.pre6 enc C.prog fn [] false) (s.post enc C.prog fn false true false false) := by
  refine returnsInHanded_of_change_sized own started noInit hfn witness ?_
  intro W base args ds gs before hval hW _ hsz _
  have hW' := hW
  obtain ⟨p, q, hA, hV, rfl, hfz, hnd⟩ := hW
  rw [hvars] at hV
  obtain ⟨rfl, rfl⟩ := trodVars_none hV
  have hlen : ds.length = n := by
    rw [← hn]; exact trodAll_length hA
  have hsz' : (DataW.weightsEach C.prog fn.params.toList ds).all (· ≤ reachBytes) = true := by
    have e : s.plain.varTypes C.prog = [] := by simp [ChangeSpec.plain, DataSpec.varTypes, hvars]
    rw [e] at hsz
    simpa using hsz
  have hlt : ∀ x ∈ p, x.block < W.heap.size := fun x hx => by
    have := hW'.lt x (by simpa using hx)
    exact this
  refine (walk W base args ds p hval hA hlt hsz').mono fun e W' ⟨he, hg⟩ => ?_
  exact ⟨_, he, law_post hl hvars hrt hb hr (hs ds hlen) hW' hg⟩
end

/-! ### Regions that draw their order: what stays while calls make new memory -/
/-- Below the size of W1 all is as in W1; old cells of the world W1 read in w' as they did. -/
abbrev Stay (W1 w' : World) : Prop := Below W1.heap.size W1 w' ∧ ∀ b o, b < W1.heap.size → w'.cell? ⟨b, o, none⟩ = W1.cell? ⟨b, o, none⟩
theorem stay_of {W1 w' : World} (h : Below W1.heap.size W1 w') : Stay W1 w' := ⟨h, fun b o hb => h.cell (p := ⟨b, o, none⟩) hb⟩
theorem stay_start (W1 : World) : Stay W1 W1.drew := stay_of (Below.refl W1.heap.size W1).drew
theorem stay_step {W1 w w' : World} (h : Stay W1 w) (hb : Below w.heap.size w w') : Stay W1 w' := stay_of (h.1.trans (hb.mono h.1.size))

/-- Old cells and marks, as rules for the walk. -/
theorem bcell {W w1 : World} (hb : Below W.heap.size W w1) : (∀ b o, b < W.heap.size → w1.cell? ⟨b, o, none⟩ = W.cell? ⟨b, o, none⟩) ∧ (∀ b o, b < W.heap.size → w1.frozen? ⟨b, o, none⟩ = W.frozen? ⟨b, o, none⟩) :=
  ⟨fun b o h => hb.cell (p := ⟨b, o, none⟩) h, fun b o h => hb.frozen (p := ⟨b, o, none⟩) h⟩
theorem stay_drew {W1 w : World} (h : Stay W1 w) : Stay W1 w.drew := stay_of h.1.drew
theorem stay_alloc {W1 w : World} (h : Stay W1 w) (o : Obj) : Stay W1 (w.alloc o) := stay_of (h.1.alloc h.1.size o)
theorem stay_set {W1 w : World} (h : Stay W1 w) {p : Addr} (hp : W1.heap.size ≤ p.block) (u : Value) : Stay W1 (w.setCell p u) := stay_of (h.1.setCell hp u)

/-- What a cell holds, whatever it is. -/
def cellD (w : World) (g j : Nat) : Value := (w.cell? ⟨g, j, none⟩).getD undef
/-- Block g has n cells that may be written. -/
abbrev HasRow (g n : Nat) (w : World) : Prop := (∀ j, j < n → w.cell? ⟨g, j, none⟩ = some (cellD w g j)) ∧ ∀ j, w.frozen? ⟨g, j, none⟩ = false
theorem hasRow_of {g n : Nat} {w : World} (h : ∀ j, j < n → (w.cell? ⟨g, j, none⟩).isSome = true) (hf : ∀ j, w.frozen? ⟨g, j, none⟩ = false) : HasRow g n w :=
  ⟨fun j hj => by
    obtain ⟨v, hv⟩ := Option.isSome_iff_exists.1 (h j hj)
    simp [cellD, hv], hf⟩
theorem hasRow_some {g n : Nat} {w : World} (h : HasRow g n w) {j : Nat} (hj : j < n) : (w.cell? ⟨g, j, none⟩).isSome = true := by rw [h.1 j hj]; rfl
theorem hasRow_new (w : World) (cs : Array Value) (t : TypeId) (n : Nat) (hn : cs.size = n) : HasRow w.heap.size n (w.alloc (.cells cs t)) :=
  hasRow_of (fun j hj => by
    rw [World.cell?_alloc_mark]
    simp [hn, hj]) (fun j => unfrozen_of_block (heap_alloc_new w _) j)
theorem hasRow_block {g n : Nat} {w w' : World} (h : HasRow g n w) (hb : w'.heap[g]? = w.heap[g]?) : HasRow g n w' :=
  hasRow_of (fun j hj => by rw [World.cell?_of_block (w := w) (w' := w') (a := ⟨g, j, none⟩) hb]; exact hasRow_some h hj) (fun j => by rw [World.frozen?_of_block (w := w) (w' := w') (a := ⟨g, j, none⟩) hb]; exact h.2 j)
theorem hasRow_below {g n B : Nat} {w w' : World} (h : HasRow g n w) (hb : Below B w w') (hg : g < B) : HasRow g n w' := hasRow_block h (hb.block g hg)
theorem hasRow_drew {g n : Nat} {w : World} (h : HasRow g n w) : HasRow g n w.drew := hasRow_block h rfl
theorem hasRow_alloc {g n : Nat} {w : World} (h : HasRow g n w) (hg : g < w.heap.size) (o : Obj) : HasRow g n (w.alloc o) := hasRow_block h (Below.heap_alloc w o g hg)
theorem hasRow_set {g n : Nat} {w : World} (h : HasRow g n w) (p : Addr) (u : Value) : HasRow g n (w.setCell p u) :=
  hasRow_of (fun j hj => by
    obtain ⟨v, hv⟩ := Option.isSome_iff_exists.1 (hasRow_some h hj)
    obtain ⟨v', hv'⟩ := cell?_setCell_some (w := w) (p := p) (x := u) (q := ⟨g, j, none⟩) (v := v) hv
    rw [hv']; rfl) (fun j => by rw [World.frozen?_setCell]; exact h.2 j)

theorem hasRow_lt {g n : Nat} {w : World} (h : HasRow g n w) (hn : 0 < n) : g < w.heap.size := World.block_lt_of_cell? w ⟨g, 0, none⟩ (h.1 0 hn)

/-- Both: old cells stay, and block g has n cells that may be written. -/
abbrev StayRow (W1 : World) (g n : Nat) (w' : World) : Prop := Stay W1 w' ∧ HasRow g n w'
theorem stayRow_step {W1 w w' : World} {g n : Nat} (h : StayRow W1 g n w) (hb : Below w.heap.size w w') (hn : 0 < n) : StayRow W1 g n w' :=
  ⟨stay_step h.1 hb, hasRow_below h.2 hb (hasRow_lt h.2 hn)⟩
theorem stayRow_set {W1 w : World} {g n : Nat} (h : StayRow W1 g n w) {p : Addr} (hp : W1.heap.size ≤ p.block) (u : Value) : StayRow W1 g n (w.setCell p u) := ⟨stay_set h.1 hp u, hasRow_set h.2 p u⟩
theorem stayRow_alloc {W1 w : World} {g n : Nat} (h : StayRow W1 g n w) (hn : 0 < n) (o : Obj) : StayRow W1 g n (w.alloc o) := ⟨stay_alloc h.1 o, hasRow_alloc h.2 (hasRow_lt h.2 hn) o⟩
theorem stayRow_drew {W1 w : World} {g n : Nat} (h : StayRow W1 g n w) : StayRow W1 g n w.drew := ⟨stay_drew h.1, hasRow_drew h.2⟩
theorem stayRow_base (W1 : World) (cs : Array Value) (t : TypeId) (g n : Nat) (hg : g = W1.heap.size) (hn : cs.size = n) : StayRow W1 g n (W1.alloc (.cells cs t)) := by
  subst hg
  exact ⟨stay_alloc (stay_of (Below.refl _ _)) _, hasRow_new W1 cs t _ hn⟩
/-- At the start: the new block is the one behind W1. -/
theorem stayRow_new (W1 : World) (cs : Array Value) (t : TypeId) (g n : Nat) (hg : g = W1.heap.size) (hn : cs.size = n) : StayRow W1 g n (W1.alloc (.cells cs t)).drew := by
  subst hg
  exact ⟨stay_drew (stay_alloc (stay_of (Below.refl _ _)) _), hasRow_drew (hasRow_new W1 cs t _ hn)⟩

theorem hasRow_unset {g n : Nat} {w : World} {p : Addr} {u : Value} (h : HasRow g n (w.setCell p u)) : HasRow g n w :=
  hasRow_of (fun j hj => by
    have hs := hasRow_some h hj
    by_cases e : p = ⟨g, j, none⟩
    · subst e
      cases hc : w.cell? ⟨g, j, none⟩ with
      | some v => rfl
      | none =>
        exfalso
        simp only [World.cell?, World.setCell, Array.getElem?_modify] at hs hc
        simp only [if_true] at hs
        cases hg : w.heap[g]? with
        | none => simp [hg] at hs
        | some o =>
          cases o <;> simp [hg] at hs hc
          omega
    · rwa [World.cell?_setCell_other _ _ _ _ e] at hs) (fun j => by have := h.2 j; rwa [World.frozen?_setCell] at this)
theorem row_put {g n : Nat} {w : World} (h : HasRow g n w) (j : Nat) (hj : j < n) (u : Value) : (w.setCell ⟨g, j, none⟩ u).cell? ⟨g, j, none⟩ = some u := World.cell?_setCell_same _ _ _ (h.1 j hj)
/-- Some stores into a row: what its cells hold. -/
theorem row1f {w : World} {g : Nat} (R0 : HasRow g 1 w) (a : Value) :
    (w.setCell ⟨g, 0, none⟩ a).cell? ⟨g, 0, none⟩ = some a := by
  exact row_put R0 0 (by decide) a
theorem row1 {W1 w : World} {g : Nat} {a : Value} (h : StayRow W1 g 1 (w.setCell ⟨g, 0, none⟩ a)) :
    (w.setCell ⟨g, 0, none⟩ a).cell? ⟨g, 0, none⟩ = some a :=
  row1f (hasRow_unset h.2) a
theorem row2f {w : World} {g : Nat} (R0 : HasRow g 2 w) (a b : Value) :
    (w.setCell ⟨g, 0, none⟩ a).cell? ⟨g, 0, none⟩ = some a ∧
      ((w.setCell ⟨g, 0, none⟩ a).setCell ⟨g, 1, none⟩ b).cell? ⟨g, 1, none⟩ = some b := by
  have R1 := hasRow_set R0 ⟨g, 0, none⟩ a
  exact ⟨row_put R0 0 (by decide) a, row_put R1 1 (by decide) b⟩
theorem row2 {W1 w : World} {g : Nat} {a b : Value} (h : StayRow W1 g 2 ((w.setCell ⟨g, 0, none⟩ a).setCell ⟨g, 1, none⟩ b)) :
    (w.setCell ⟨g, 0, none⟩ a).cell? ⟨g, 0, none⟩ = some a ∧
      ((w.setCell ⟨g, 0, none⟩ a).setCell ⟨g, 1, none⟩ b).cell? ⟨g, 1, none⟩ = some b :=
  row2f (hasRow_unset (hasRow_unset h.2)) a b
theorem row3f {w : World} {g : Nat} (R0 : HasRow g 3 w) (a b c : Value) :
    (w.setCell ⟨g, 0, none⟩ a).cell? ⟨g, 0, none⟩ = some a ∧
      ((w.setCell ⟨g, 0, none⟩ a).setCell ⟨g, 1, none⟩ b).cell? ⟨g, 1, none⟩ = some b ∧
      (((w.setCell ⟨g, 0, none⟩ a).setCell ⟨g, 1, none⟩ b).setCell ⟨g, 2, none⟩ c).cell? ⟨g, 2, none⟩ = some c := by
  have R1 := hasRow_set R0 ⟨g, 0, none⟩ a
  have R2 := hasRow_set R1 ⟨g, 1, none⟩ b
  exact ⟨row_put R0 0 (by decide) a, row_put R1 1 (by decide) b, row_put R2 2 (by decide) c⟩
theorem row3 {W1 w : World} {g : Nat} {a b c : Value} (h : StayRow W1 g 3 (((w.setCell ⟨g, 0, none⟩ a).setCell ⟨g, 1, none⟩ b).setCell ⟨g, 2, none⟩ c)) :
    (w.setCell ⟨g, 0, none⟩ a).cell? ⟨g, 0, none⟩ = some a ∧
      ((w.setCell ⟨g, 0, none⟩ a).setCell ⟨g, 1, none⟩ b).cell? ⟨g, 1, none⟩ = some b ∧
      (((w.setCell ⟨g, 0, none⟩ a).setCell ⟨g, 1, none⟩ b).setCell ⟨g, 2, none⟩ c).cell? ⟨g, 2, none⟩ = some c :=
  row3f (hasRow_unset (hasRow_unset (hasRow_unset h.2))) a b c
theorem row4f {w : World} {g : Nat} (R0 : HasRow g 4 w) (a b c d : Value) :
    (w.setCell ⟨g, 0, none⟩ a).cell? ⟨g, 0, none⟩ = some a ∧
      ((w.setCell ⟨g, 0, none⟩ a).setCell ⟨g, 1, none⟩ b).cell? ⟨g, 1, none⟩ = some b ∧
      (((w.setCell ⟨g, 0, none⟩ a).setCell ⟨g, 1, none⟩ b).setCell ⟨g, 2, none⟩ c).cell? ⟨g, 2, none⟩ = some c ∧
      ((((w.setCell ⟨g, 0, none⟩ a).setCell ⟨g, 1, none⟩ b).setCell ⟨g, 2, none⟩ c).setCell ⟨g, 3, none⟩ d).cell? ⟨g, 3, none⟩ = some d := by
  have R1 := hasRow_set R0 ⟨g, 0, none⟩ a
  have R2 := hasRow_set R1 ⟨g, 1, none⟩ b
  have R3 := hasRow_set R2 ⟨g, 2, none⟩ c
  exact ⟨row_put R0 0 (by decide) a, row_put R1 1 (by decide) b, row_put R2 2 (by decide) c, row_put R3 3 (by decide) d⟩
theorem row4 {W1 w : World} {g : Nat} {a b c d : Value} (h : StayRow W1 g 4 ((((w.setCell ⟨g, 0, none⟩ a).setCell ⟨g, 1, none⟩ b).setCell ⟨g, 2, none⟩ c).setCell ⟨g, 3, none⟩ d)) :
    (w.setCell ⟨g, 0, none⟩ a).cell? ⟨g, 0, none⟩ = some a ∧
      ((w.setCell ⟨g, 0, none⟩ a).setCell ⟨g, 1, none⟩ b).cell? ⟨g, 1, none⟩ = some b ∧
      (((w.setCell ⟨g, 0, none⟩ a).setCell ⟨g, 1, none⟩ b).setCell ⟨g, 2, none⟩ c).cell? ⟨g, 2, none⟩ = some c ∧
      ((((w.setCell ⟨g, 0, none⟩ a).setCell ⟨g, 1, none⟩ b).setCell ⟨g, 2, none⟩ c).setCell ⟨g, 3, none⟩ d).cell? ⟨g, 3, none⟩ = some d :=
  row4f (hasRow_unset (hasRow_unset (hasRow_unset (hasRow_unset h.2)))) a b c d
theorem row5f {w : World} {g : Nat} (R0 : HasRow g 5 w) (a b c d e : Value) :
    (w.setCell ⟨g, 0, none⟩ a).cell? ⟨g, 0, none⟩ = some a ∧
      ((w.setCell ⟨g, 0, none⟩ a).setCell ⟨g, 1, none⟩ b).cell? ⟨g, 1, none⟩ = some b ∧
      (((w.setCell ⟨g, 0, none⟩ a).setCell ⟨g, 1, none⟩ b).setCell ⟨g, 2, none⟩ c).cell? ⟨g, 2, none⟩ = some c ∧
      ((((w.setCell ⟨g, 0, none⟩ a).setCell ⟨g, 1, none⟩ b).setCell ⟨g, 2, none⟩ c).setCell ⟨g, 3, none⟩ d).cell? ⟨g, 3, none⟩ = some d ∧
      (((((w.setCell ⟨g, 0, none⟩ a).setCell ⟨g, 1, none⟩ b).setCell ⟨g, 2, none⟩ c).setCell ⟨g, 3, none⟩ d).setCell ⟨g, 4, none⟩ e).cell? ⟨g, 4, none⟩ = some e := by
  have R1 := hasRow_set R0 ⟨g, 0, none⟩ a
  have R2 := hasRow_set R1 ⟨g, 1, none⟩ b
  have R3 := hasRow_set R2 ⟨g, 2, none⟩ c
  have R4 := hasRow_set R3 ⟨g, 3, none⟩ d
  exact ⟨row_put R0 0 (by decide) a, row_put R1 1 (by decide) b, row_put R2 2 (by decide) c, row_put R3 3 (by decide) d, row_put R4 4 (by decide) e⟩
theorem row5 {W1 w : World} {g : Nat} {a b c d e : Value} (h : StayRow W1 g 5 (((((w.setCell ⟨g, 0, none⟩ a).setCell ⟨g, 1, none⟩ b).setCell ⟨g, 2, none⟩ c).setCell ⟨g, 3, none⟩ d).setCell ⟨g, 4, none⟩ e)) :
    (w.setCell ⟨g, 0, none⟩ a).cell? ⟨g, 0, none⟩ = some a ∧
      ((w.setCell ⟨g, 0, none⟩ a).setCell ⟨g, 1, none⟩ b).cell? ⟨g, 1, none⟩ = some b ∧
      (((w.setCell ⟨g, 0, none⟩ a).setCell ⟨g, 1, none⟩ b).setCell ⟨g, 2, none⟩ c).cell? ⟨g, 2, none⟩ = some c ∧
      ((((w.setCell ⟨g, 0, none⟩ a).setCell ⟨g, 1, none⟩ b).setCell ⟨g, 2, none⟩ c).setCell ⟨g, 3, none⟩ d).cell? ⟨g, 3, none⟩ = some d ∧
      (((((w.setCell ⟨g, 0, none⟩ a).setCell ⟨g, 1, none⟩ b).setCell ⟨g, 2, none⟩ c).setCell ⟨g, 3, none⟩ d).setCell ⟨g, 4, none⟩ e).cell? ⟨g, 4, none⟩ = some e :=
  row5f (hasRow_unset (hasRow_unset (hasRow_unset (hasRow_unset (hasRow_unset h.2))))) a b c d e
theorem row6f {w : World} {g : Nat} (R0 : HasRow g 6 w) (a b c d e f : Value) :
    (w.setCell ⟨g, 0, none⟩ a).cell? ⟨g, 0, none⟩ = some a ∧
      ((w.setCell ⟨g, 0, none⟩ a).setCell ⟨g, 1, none⟩ b).cell? ⟨g, 1, none⟩ = some b ∧
      (((w.setCell ⟨g, 0, none⟩ a).setCell ⟨g, 1, none⟩ b).setCell ⟨g, 2, none⟩ c).cell? ⟨g, 2, none⟩ = some c ∧
      ((((w.setCell ⟨g, 0, none⟩ a).setCell ⟨g, 1, none⟩ b).setCell ⟨g, 2, none⟩ c).setCell ⟨g, 3, none⟩ d).cell? ⟨g, 3, none⟩ = some d ∧
      (((((w.setCell ⟨g, 0, none⟩ a).setCell ⟨g, 1, none⟩ b).setCell ⟨g, 2, none⟩ c).setCell ⟨g, 3, none⟩ d).setCell ⟨g, 4, none⟩ e).cell? ⟨g, 4, none⟩ = some e ∧
      ((((((w.setCell ⟨g, 0, none⟩ a).setCell ⟨g, 1, none⟩ b).setCell ⟨g, 2, none⟩ c).setCell ⟨g, 3, none⟩ d).setCell ⟨g, 4, none⟩ e).setCell ⟨g, 5, none⟩ f).cell? ⟨g, 5, none⟩ = some f := by
  have R1 := hasRow_set R0 ⟨g, 0, none⟩ a
  have R2 := hasRow_set R1 ⟨g, 1, none⟩ b
  have R3 := hasRow_set R2 ⟨g, 2, none⟩ c
  have R4 := hasRow_set R3 ⟨g, 3, none⟩ d
  have R5 := hasRow_set R4 ⟨g, 4, none⟩ e
  exact ⟨row_put R0 0 (by decide) a, row_put R1 1 (by decide) b, row_put R2 2 (by decide) c, row_put R3 3 (by decide) d, row_put R4 4 (by decide) e, row_put R5 5 (by decide) f⟩
theorem row6 {W1 w : World} {g : Nat} {a b c d e f : Value} (h : StayRow W1 g 6 ((((((w.setCell ⟨g, 0, none⟩ a).setCell ⟨g, 1, none⟩ b).setCell ⟨g, 2, none⟩ c).setCell ⟨g, 3, none⟩ d).setCell ⟨g, 4, none⟩ e).setCell ⟨g, 5, none⟩ f)) :
    (w.setCell ⟨g, 0, none⟩ a).cell? ⟨g, 0, none⟩ = some a ∧
      ((w.setCell ⟨g, 0, none⟩ a).setCell ⟨g, 1, none⟩ b).cell? ⟨g, 1, none⟩ = some b ∧
      (((w.setCell ⟨g, 0, none⟩ a).setCell ⟨g, 1, none⟩ b).setCell ⟨g, 2, none⟩ c).cell? ⟨g, 2, none⟩ = some c ∧
      ((((w.setCell ⟨g, 0, none⟩ a).setCell ⟨g, 1, none⟩ b).setCell ⟨g, 2, none⟩ c).setCell ⟨g, 3, none⟩ d).cell? ⟨g, 3, none⟩ = some d ∧
      (((((w.setCell ⟨g, 0, none⟩ a).setCell ⟨g, 1, none⟩ b).setCell ⟨g, 2, none⟩ c).setCell ⟨g, 3, none⟩ d).setCell ⟨g, 4, none⟩ e).cell? ⟨g, 4, none⟩ = some e ∧
      ((((((w.setCell ⟨g, 0, none⟩ a).setCell ⟨g, 1, none⟩ b).setCell ⟨g, 2, none⟩ c).setCell ⟨g, 3, none⟩ d).setCell ⟨g, 4, none⟩ e).setCell ⟨g, 5, none⟩ f).cell? ⟨g, 5, none⟩ = some f :=
  row6f (hasRow_unset (hasRow_unset (hasRow_unset (hasRow_unset (hasRow_unset (hasRow_unset h.2)))))) a b c d e f

/-! ### A region that draws its order and holds guards: one walk of the text's order, in a class of worlds -/
section
variable {P : Program} {ops : Array Oper} {C : World → Prop} {Q : Act → Prop} {o : Oper} {rest : List Oper} {a : Act}
theorem wp_region_quiet_C {id : Nat} {Q' : Exit → Act → World → Prop} {w : World} {l : List Oper} (C : World → Prop) (hm : P.follows .mixedOrders = true) (hB : Region.lexB .any l.toArray = true) (hC : C w.drew)
    (h : wpQuiet P l.toArray C (fun a' => ∀ w', C w' → Q' .normal a' w') l a) : (Code.region id l.toArray true).wp P Q' a w :=
  wp_region_quiet (C := C) hm hB hC (by simpa using h)
theorem wpQ_skip (h : Region.wanted o (yielded ops a.tmps) = false) (k : wpQuiet P ops C Q rest (a.put o.dst undef)) : wpQuiet P ops C Q (o :: rest) a := by
  unfold wpQuiet; rw [if_neg (by rw [h]; decide)]; exact k
theorem wpQ_value {v : Value} (h : Region.wanted o (yielded ops a.tmps) = true) (hv : ∀ w, C w → (execOp a.eval o).run P w = .ok (.value v) w) (k : wpQuiet P ops C Q rest (a.put o.dst v)) :
    wpQuiet P ops C Q (o :: rest) a := by
  unfold wpQuiet; rw [if_pos h]
  exact ⟨v, fun w hw => by unfold Oper.quietAt; rw [hv w hw]; exact ⟨rfl, rfl⟩, k⟩
theorem wpQ_call {f : FuncId} {args : Array Value} {v : Value} (h : Region.wanted o (yielded ops a.tmps) = true) (hv : ∀ w, C w → (execOp a.eval o).run P w = .ok (.enter f args) w)
    (hc : ∀ w, C w → Calls P f args w fun e w'' => e = .returned v ∧ C w'') (k : wpQuiet P ops C Q rest (a.put o.dst v)) : wpQuiet P ops C Q (o :: rest) a := by
  unfold wpQuiet; rw [if_pos h]
  exact ⟨v, fun w hw => by unfold Oper.quietAt; rw [hv w hw]; exact ⟨rfl, hc w hw⟩, k⟩
end

/-- The facts that each law row of this seat asks of its parameters' types. -/
theorem params_ok {P : Program} {fn : Func} (h : (fn.params.toList.all fun t => P.readableRec t && decide (t < P.types.size)) = true) : ∀ t ∈ fn.params.toList, P.readableRec t = true ∧ t < P.types.size := by
  intro t ht
  have := List.all_eq_true.1 h t ht
  simpa using this

end Go.Proofs.YtceepfnjdkfjnaaFmt
