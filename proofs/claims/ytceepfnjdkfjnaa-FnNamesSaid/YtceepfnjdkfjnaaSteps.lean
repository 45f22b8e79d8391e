/-
  Steps over a set of names: what they tell, and what the set is then; spec.Steps, zzFits4, and the list that the law builds. Conditions: the lists' lengths.
-/
import Derived.Test.YtceepfnjdkfjnaaRow1
import Derived.Test.YtceepfnjdkfjnaaNamesLaw
namespace Go.Proofs.Ytceepfnjdkfjnaa
open Go.ChangeShapes Go.WideShapes Go.ChangeAt Go.RowKit Go.Joins

/-- A step: its number and its name. -/
abbrev St := Int × ByteArray
/-- A list of steps in memory. -/
def StepsAt (w : World) (l : List St) (a : Option Addr) : Prop :=
  ∀ i op nm, l[i]? = some (op, nm) → ∃ b off, a = some ⟨b, off, none⟩ ∧ b < w.heap.size ∧ w.cell? ⟨b, off + i * 2, none⟩ = some (.int .i64 op) ∧ w.cell? ⟨b, off + i * 2 + 1, none⟩ = some (.string nm)
theorem StepsAt.bel {w w' : World} {l : List St} {a : Option Addr} (h : StepsAt w l a) (hb : Below w.heap.size w w') : StepsAt w' l a := fun i op nm hi => by
  obtain ⟨b, off, e, hlt, h1, h2⟩ := h i op nm hi
  exact ⟨b, off, e, Nat.lt_of_lt_of_le hlt hb.size, ((bcell hb).1 b _ hlt).trans h1, ((bcell hb).1 b _ hlt).trans h2⟩
/-- Steps that are known. -/
def Known (l : List St) : Prop := l.length ≤ 60 ∧ ∀ x ∈ l, 0 ≤ x.1 ∧ x.1 ≤ 2 ∧ x.2.size ≤ 100
def toldB (op : Int) (i : Bool) : Bool := (op == 0 && !i) || op == 1 || (op == 2 && i)
def putB (op : Int) (i : Bool) : Bool := op == 0 || (op != 1 && i)
/-- What has been told, and the names. -/
abbrev Sofar := List Bool × List (List UInt8)
def doStep (s : Sofar) (x : St) : Sofar := (s.1 ++ [toldB x.1 (decide (x.2.data.toList ∈ s.2))], nextOf Op.bytesLess (putB x.1 (decide (x.2.data.toList ∈ s.2))) x.2.data.toList s.2)
def upTo (l : List St) (j : Nat) : Sofar := (l.take j).foldl doStep ([], [])
theorem upTo_zero (l : List St) : upTo l 0 = ([], []) := rfl
theorem upTo_next {l : List St} {j : Nat} {x : St} (h : l[j]? = some x) : upTo l (j + 1) = doStep (upTo l j) x := by
  unfold upTo
  rw [List.take_add_one, h, List.foldl_append]
  rfl
theorem upTo_order (l : List St) : ∀ j, j ≤ l.length → InOrder Op.bytesLess (upTo l j).2
  | 0, _ => List.Pairwise.nil
  | j + 1, h => by
    rw [upTo_next (List.getElem?_eq_getElem (show j < l.length by omega))]
    exact next_order ord_bytes _ _ (upTo_order l j (by omega))
theorem nextOf_len {α : Type} [DecidableEq α] {lt : α → α → Bool} (p : Bool) (n : α) (l : List α) : (nextOf lt p n l).length ≤ l.length + 1 := by
  have := ahead_le (lt := lt) n l
  unfold nextOf
  simp only [List.length_append, List.length_take]
  split <;> split <;> simp <;> omega
theorem upTo_len (l : List St) : ∀ j, j ≤ l.length → (upTo l j).1.length = j ∧ (upTo l j).2.length ≤ j
  | 0, _ => ⟨rfl, Nat.le_refl _⟩
  | j + 1, h => by
    obtain ⟨h1, h2⟩ := upTo_len l j (by omega)
    rw [upTo_next (List.getElem?_eq_getElem (show j < l.length by omega))]
    refine ⟨by simp [doStep, h1], Nat.le_trans (nextOf_len _ _ _) (by omega)⟩
/-- The set's names, by step. -/
theorem step_mem {s : Sofar} {op : Int} {nm : ByteArray} (hs : InOrder Op.bytesLess s.2) (h0 : 0 ≤ op) (h2 : op ≤ 2) (x : List UInt8) :
    x ∈ (doStep s (op, nm)).2 ↔ if op = 0 then x ∈ nm.data.toList :: s.2 else if op = 1 then x ∈ s.2.filter (fun x => decide (x ≠ nm.data.toList)) else x ∈ s.2 := by
  unfold doStep
  rw [next_mem ord_bytes _ _ hs]
  by_cases e0 : op = 0
  · subst e0
    simp [putB]
    by_cases e : x = nm.data.toList <;> simp [e]
  · by_cases e1 : op = 1
    · subst e1
      simp [putB]
      exact And.comm
    · have e2 : op = 2 := by omega
      subst e2
      simp [putB]
      by_cases e : x = nm.data.toList <;> simp [e]

/-- A truth value; if it is true, something holds. -/
def Tells (e : Ending) (p : Prop) : Prop := ∃ r : Bool, e = .returned (.bool r) ∧ (r = true → p)
/-! ### zzFits4, spec.Steps -/
theorem fits5_any (op : Int) (nm : ByteArray) (w : World) : Calls Try.prog 9 #[.agg #[.int .i64 op, .string nm]] w fun e w' => (∃ r : Bool, e = .returned (.bool r)) ∧ Below w.heap.size w w' := by
  go_enter Try.func9, Try.ntmps9
  go_wp2
  all_goals go_ret
  all_goals exact ⟨⟨_, rfl⟩, below_alloc1 _ _⟩
theorem fits4_any {w : World} {l : List St} {a : Option Addr} (h : StepsAt w l a) (cap : Nat) :
    Calls Try.prog 4 #[.slice a l.length cap] w fun e w' => Tells e (l.length ≤ 2147483647) ∧ Below w.heap.size w w' := by
  by_cases h1 : (2147483647 : Int) < l.length
  · have d1 : decide ((2147483647 : Int) < l.length) = true := decide_eq_true h1
    go_enter Try.func4, Try.ntmps4
    go_wp2
    go_ret
    exact ⟨⟨_, rfl, by simp⟩, Below.refl _ _⟩
  have d1 : decide ((2147483647 : Int) < l.length) = false := decide_eq_false h1
  have hb : l.length ≤ 2147483647 := by omega
  have H := Lib.hid h; clear h h1
  go_enter Try.func4, Try.ntmps4
  go_wp2
  go_loopw [10] (fun i wr => ∃ j : Nat, j ≤ l.length ∧ i = .int .i64 j ∧ Below w.heap.size w wr) (fun i _ => l.length - (intOf i).toNat)
  case atStart => exact ⟨0, Nat.zero_le _, rfl, Below.refl _ _⟩
  case round =>
    obtain ⟨j, hj, rfl, hB⟩ := hrel
    by_cases hjl : j < l.length
    · obtain ⟨⟨op, nm⟩, hx⟩ : ∃ x, l[j]? = some x := ⟨_, List.getElem?_eq_getElem hjl⟩
      obtain ⟨b, off, rfl, hlt, c0, c1⟩ := (H.out.bel hB) j op nm hx
      have hlt' := hlt
      clear hx
      go_wp2_with fail
      go_at_call 9
      refine (fits5_any op nm _).mono ?_
      rintro e w2 ⟨⟨r, rfl⟩, hb2⟩
      have hB2 := (hB.alloc hB.size (.cells #[.int .i64 op, .string nm] 26)).trans (hb2.mono (by have := hB.size; simp; omega))
      clear c0 c1 hb2
      cases r
      · go_wp2
        go_ret
        exact ⟨⟨_, rfl, by simp⟩, hB2⟩
      · go_wp2
        go_roundw
        case rel => exact ⟨j + 1, by omega, by go_num, hB2⟩
        case measure => simp [intOf]; omega
    · go_wp2
      go_ret
      exact ⟨⟨_, rfl, fun _ => hb⟩, hB⟩
theorem steps_any {w : World} {l : List St} {a : Option Addr} (h : StepsAt w l a) (cap : Nat) (hl : l.length ≤ 2147483647) :
    Calls Try.prog 5 #[.slice a l.length cap] w fun e w' => Tells e (Known l) ∧ Below w.heap.size w w' := by
  have H := Lib.hid h; clear h
  go_enter Try.func5, Try.ntmps5
  go_wp2
  go_loopw [7] (fun i wr => ∃ j : Nat, j ≤ l.length ∧ i = .int .i64 j ∧ (∀ x ∈ l.take j, 0 ≤ x.1 ∧ x.1 ≤ 2 ∧ x.2.size ≤ 100) ∧ Below w.heap.size w wr) (fun i _ => l.length - (intOf i).toNat)
  case atStart => exact ⟨0, Nat.zero_le _, rfl, by simp, Below.refl _ _⟩
  case round =>
    obtain ⟨j, hj, rfl, hall, hB⟩ := hrel
    have HALL := Lib.hid hall; clear hall
    by_cases hjl : j < l.length
    · obtain ⟨⟨op, nm⟩, hx⟩ : ∃ x, l[j]? = some x := ⟨_, List.getElem?_eq_getElem hjl⟩
      obtain ⟨b, off, rfl, hlt, c0, c1⟩ := (H.out.bel hB) j op nm hx
      have HX := Lib.hid hx
      have hB2 := hB.alloc hB.size (.cells #[.int .i64 op, .string nm] 27)
      have HB2 := Lib.hid hB2
      clear hx hB2
      by_cases g0 : op < 0
      · have d0 : decide (op < 0) = true := decide_eq_true g0
        go_wp2
        go_ret
        exact ⟨⟨_, rfl, by simp⟩, HB2.out⟩
      by_cases g2 : 2 < op
      · have d0 : decide (op < 0) = false := decide_eq_false g0
        have d2 : decide (2 < op) = true := decide_eq_true g2
        go_wp2
        go_ret
        exact ⟨⟨_, rfl, by simp⟩, HB2.out⟩
      by_cases gn : (100 : Int) < nm.size
      · have d0 : decide (op < 0) = false := decide_eq_false g0
        have d2 : decide (2 < op) = false := decide_eq_false g2
        have d3 : decide ((100 : Int) < nm.size) = true := decide_eq_true gn
        go_wp2
        go_ret
        exact ⟨⟨_, rfl, by simp⟩, HB2.out⟩
      have d0 : decide (op < 0) = false := decide_eq_false g0
      have d2 : decide (2 < op) = false := decide_eq_false g2
      have d3 : decide ((100 : Int) < nm.size) = false := decide_eq_false gn
      have HN := Lib.hid (show 0 ≤ op ∧ op ≤ 2 ∧ nm.size ≤ 100 by omega)
      clear g0 g2 gn
      go_wp2
      go_roundw
      case rel =>
        refine ⟨j + 1, by omega, by go_num, fun x hx => ?_, HB2.out⟩
        rw [List.take_add_one, HX.out] at hx
        rcases List.mem_append.1 hx with hx | hx
        · exact HALL.out x hx
        · obtain rfl : x = (op, nm) := by simpa using hx
          exact HN.out
      case measure => simp [intOf]; omega
    · have hje : j = l.length := by omega
      subst hje
      rw [List.take_length] at HALL
      by_cases h60 : (l.length : Int) ≤ 60
      · have d6 : decide ((l.length : Int) ≤ 60) = true := decide_eq_true h60
        have HK := Lib.hid (show l.length ≤ 60 by omega)
        clear h60
        go_wp2
        go_ret
        exact ⟨⟨_, rfl, fun _ => ⟨HK.out, HALL.out⟩⟩, hB⟩
      · have d6 : decide ((l.length : Int) ≤ 60) = false := decide_eq_false h60
        clear h60
        go_wp2
        go_ret
        exact ⟨⟨_, rfl, by simp⟩, hB⟩
end Go.Proofs.Ytceepfnjdkfjnaa
