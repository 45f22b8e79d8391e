/-
  What the laws over pieces share: texts and pieces in memory, their sizes, what is sound. Conditions: those that the theorems name.
-/
import Derived.Test.YthlnciihabhmaaaKit
import Derived.LoopTactic
import Derived.ChangeMaps5
import Derived.SliceStrings
namespace Go.Proofs.Ythlnciihabhmaaa
open Go.ChangeShapes Go.WideShapes Go.ChangeAt Go.RowKit Go.Joins

/-- The texts of a row from ⟨b, off⟩ on. -/
abbrev TextsAt (w : World) (b off : Nat) (ss : List ByteArray) : Prop := ∀ i s, ss[i]? = some s → w.cell? ⟨b, off + i, none⟩ = some (.string s)

/-- A truth value, whichever. -/
def IsBool (e : Ending) : Prop := ∃ r, e = .returned (.bool r)

/-- A list of texts fits or does not. -/
theorem fits3_row (ss : List ByteArray) (b off cap : Nat) (w : World) (hm : (ss.length : Int) ≤ 9223372036854775807) (hc : TextsAt w b off ss) :
    Calls Try.prog 28 #[.slice (some ⟨b, off, none⟩) ss.length cap] w fun e w' => IsBool e ∧ w = w' := by
  go_enter Try.func28, Try.ntmps28
  go_wp2
  · go_ret
    exact ⟨⟨_, rfl⟩, rfl⟩
  go_loop [10] (fun i => ∃ k : Nat, k ≤ ss.length ∧ i = .int .i64 k) (fun i => ss.length - (intOf i).toNat)
  case atStart => exact ⟨0, Nat.zero_le _, rfl⟩
  case round =>
    obtain ⟨k, hk, rfl⟩ := hrel
    have hcell : k < ss.length → w.cell? ⟨b, off + k, none⟩ = some (.string (ss.getD k ByteArray.empty)) := fun h => hc k _ (by simp [List.getD, List.getElem?_eq_getElem h])
    clear hc
    go_wp2
    · go_ret
      exact ⟨⟨_, rfl⟩, rfl⟩
    · go_round
      case rel => exact ⟨k + 1, by omega, by go_num⟩
      case measure => simp [intOf]; omega
    · go_ret
      exact ⟨⟨_, rfl⟩, rfl⟩
theorem fits3_none (a : Option Addr) (cap : Nat) (w : World) :
    Calls Try.prog 28 #[.slice a 0 cap] w fun e w' => IsBool e ∧ w = w' := by
  go_enter Try.func28, Try.ntmps28
  go_wp2
  go_loop [10] (fun i => i = .int .i64 0) (fun i => 0)
  case atStart => rfl
  case round =>
    subst hrel
    go_wp2
    go_ret
    exact ⟨⟨_, rfl⟩, rfl⟩

/-- A piece is as its kind asks for. -/
def SoundP (k bl ind : Int) (ss : List ByteArray) : Prop :=
  (0 ≤ bl ∧ bl ≤ 1000) ∧ (0 ≤ ind ∧ ind ≤ 1000) ∧ ss.length ≤ 12 ∧ (∀ s ∈ ss, s.size ≤ 400) ∧
    ((k = 0 ∧ ss.length < 2) ∨ (k = 1 ∧ ss.length = 1 ∧ bl = 0 ∧ ind = 0) ∨ (k = 2 ∧ 0 < ss.length))
/-- Told sound only if it is. -/
def IfSound (k bl ind : Int) (ss : List ByteArray) (e : Ending) : Prop := ∃ r, e = .returned (.bool r) ∧ (r = true → SoundP k bl ind ss)
theorem ifSound_no (k bl ind : Int) (ss : List ByteArray) : IfSound k bl ind ss (.returned (.bool false)) := ⟨false, rfl, fun h => by cases h⟩

theorem ifSound_of {k bl ind : Int} {ss : List ByteArray} {r : Bool} (h : r = true → SoundP k bl ind ss) : IfSound k bl ind ss (.returned (.bool r)) := ⟨r, rfl, h⟩
theorem sizes_all {ss : List ByteArray} (h : ∀ i s, i < ss.length → ss[i]? = some s → s.size ≤ 400) : ∀ s ∈ ss, s.size ≤ 400 := fun s hs => by
  obtain ⟨i, hi⟩ := List.getElem?_of_mem hs
  exact h i s (List.getElem?_eq_some_iff.1 hi).1 hi

theorem sound_row (k bl ind : Int) (ss : List ByteArray) (b off cap : Nat) (w : World) (hm : (ss.length : Int) ≤ 9223372036854775807) (hlt : b < w.heap.size) (hc : TextsAt w b off ss) :
    Calls Try.prog 15 #[.agg #[.int .i64 k, .int .i64 bl, .int .i64 ind, .slice (some ⟨b, off, none⟩) ss.length cap]] w fun e w' => IfSound k bl ind ss e ∧ Below w.heap.size w w' := by
  by_cases h1 : bl < 0
  · go_enter Try.func15, Try.ntmps15
    go_wp2
    go_ret
    exact ⟨ifSound_no _ _ _ _, below_alloc1 _ _⟩
  by_cases h2 : bl > 1000
  · go_enter Try.func15, Try.ntmps15
    go_wp2
    go_ret
    exact ⟨ifSound_no _ _ _ _, below_alloc1 _ _⟩
  by_cases h3 : ind < 0
  · go_enter Try.func15, Try.ntmps15
    go_wp2
    go_ret
    exact ⟨ifSound_no _ _ _ _, below_alloc1 _ _⟩
  by_cases h4 : ind > 1000
  · go_enter Try.func15, Try.ntmps15
    go_wp2
    go_ret
    exact ⟨ifSound_no _ _ _ _, below_alloc1 _ _⟩
  by_cases h5 : (ss.length : Int) > 12
  · go_enter Try.func15, Try.ntmps15
    go_wp2
    go_ret
    exact ⟨ifSound_no _ _ _ _, below_alloc1 _ _⟩
  have hB := below_alloc1 w (.cells #[.int .i64 k, .int .i64 bl, .int .i64 ind, .slice (some ⟨b, off, none⟩) ss.length cap] 31)
  have hc1 : TextsAt (w.alloc (.cells #[.int .i64 k, .int .i64 bl, .int .i64 ind, .slice (some ⟨b, off, none⟩) ss.length cap] 31)) b off ss := fun i s h => ((bcell hB).1 b (off + i) hlt).trans (hc i s h)
  clear hc
  go_enter Try.func15, Try.ntmps15
  go_wp2
  go_loop [32] (fun i => ∃ j : Nat, j ≤ ss.length ∧ i = .int .i64 j ∧ ∀ i s, i < j → ss[i]? = some s → s.size ≤ 400) (fun i => ss.length - (intOf i).toNat)
  case atStart => exact ⟨0, Nat.zero_le _, rfl, fun i s h => absurd h (by omega)⟩
  case round =>
    obtain ⟨j, hj, rfl, hs⟩ := hrel
    have hcell : j < ss.length → (w.alloc (.cells #[.int .i64 k, .int .i64 bl, .int .i64 ind, .slice (some ⟨b, off, none⟩) ss.length cap] 31)).cell? ⟨b, off + j, none⟩ = some (.string (ss.getD j ByteArray.empty)) := fun h => hc1 j _ (by simp [List.getD, List.getElem?_eq_getElem h])
    clear hc1
    have hS := Lib.hid hs; clear hs
    go_wp2
    case roundEnd =>
      have hlt : j < ss.length := by assumption
      have hs0 : (ss[j].size : Int) ≤ 400 := by assumption
      go_round
      case rel =>
        refine ⟨j + 1, by omega, by go_num, fun i s hi h => ?_⟩
        by_cases e : i = j
        · subst e
          rw [List.getElem?_eq_getElem hlt] at h
          obtain rfl := Option.some.inj h
          omega
        · exact hS.out i s (by omega) h
      case measure => simp [intOf]; omega
    all_goals first
      | (go_ret; exact ⟨ifSound_no _ _ _ _, below_alloc1 _ _⟩)
      | (go_ret; refine ⟨ifSound_of fun hr => ?_, below_alloc1 _ _⟩
         have hj' : j = ss.length := by omega
         subst hj'
         refine ⟨by omega, by omega, by omega, sizes_all hS.out, ?_⟩
         (simp only [beq_iff_eq, decide_eq_true_eq, true_and] at *); omega)
theorem sound_none (k bl ind : Int) (a : Option Addr) (cap : Nat) (w : World) :
    Calls Try.prog 15 #[.agg #[.int .i64 k, .int .i64 bl, .int .i64 ind, .slice a 0 cap]] w fun e w' => IfSound k bl ind [] e ∧ Below w.heap.size w w' := by
  by_cases h1 : bl < 0
  · go_enter Try.func15, Try.ntmps15
    go_wp2
    go_ret
    exact ⟨ifSound_no _ _ _ _, below_alloc1 _ _⟩
  by_cases h2 : bl > 1000
  · go_enter Try.func15, Try.ntmps15
    go_wp2
    go_ret
    exact ⟨ifSound_no _ _ _ _, below_alloc1 _ _⟩
  by_cases h3 : ind < 0
  · go_enter Try.func15, Try.ntmps15
    go_wp2
    go_ret
    exact ⟨ifSound_no _ _ _ _, below_alloc1 _ _⟩
  by_cases h4 : ind > 1000
  · go_enter Try.func15, Try.ntmps15
    go_wp2
    go_ret
    exact ⟨ifSound_no _ _ _ _, below_alloc1 _ _⟩
  go_enter Try.func15, Try.ntmps15
  go_wp2
  go_loop [32] (fun i => i = .int .i64 0) (fun i => 0)
  case atStart => rfl
  case round =>
    subst hrel
    go_wp2
    all_goals first
      | (go_ret; exact ⟨ifSound_no _ _ _ _, below_alloc1 _ _⟩)
      | (go_ret; refine ⟨ifSound_of fun hr => ?_, below_alloc1 _ _⟩
         refine ⟨by omega, by omega, by simp, by simp, ?_⟩
         (try simp only [beq_iff_eq] at *); (try simp only [decide_eq_true_eq] at *); (try simp only [true_and] at *); (try simp only [and_true] at *); (try simp only [List.length_nil] at *); omega)

/-- The world's own laws.piece, spec's, impl's: the same numbers and the same texts. -/
theorem piece_any (k bl ind : Int) (a : Option Addr) (n cap : Nat) (w : World) :
    Calls Try.prog 14 #[.agg #[.int .i64 k, .int .i64 bl, .int .i64 ind, .slice a n cap]] w fun e w' => e = .returned (.agg #[.int .i64 k, .int .i64 bl, .int .i64 ind, .slice a n cap]) ∧ Below w.heap.size w w' := by
  go_enter Try.func14, Try.ntmps14
  go_wp2
  exact bodyPost_ret (v := .agg #[.int .i64 k, .int .i64 bl, .int .i64 ind, .slice a n cap]) (by simp [results, Try.results14, go_sem]) rfl ⟨rfl, below_alloc2 _ _ _⟩

theorem fits2_row (k bl ind : Int) (ss : List ByteArray) (b off cap : Nat) (w : World) (hm : (ss.length : Int) ≤ 9223372036854775807) (hlt : b < w.heap.size) (hc : TextsAt w b off ss) :
    Calls Try.prog 13 #[.agg #[.int .i64 k, .int .i64 bl, .int .i64 ind, .slice (some ⟨b, off, none⟩) ss.length cap]] w fun e w' => IsBool e ∧ Below w.heap.size w w' := by
  have hB := below_alloc1 w (.cells #[.int .i64 k, .int .i64 bl, .int .i64 ind, .slice (some ⟨b, off, none⟩) ss.length cap] 29)
  have hc1 : TextsAt (w.alloc (.cells #[.int .i64 k, .int .i64 bl, .int .i64 ind, .slice (some ⟨b, off, none⟩) ss.length cap] 29)) b off ss := fun i s h => ((bcell hB).1 b (off + i) hlt).trans (hc i s h)
  have hH := Lib.hid hc1
  clear hc hc1
  go_enter Try.func13, Try.ntmps13
  go_wp2_with (go_at_call 28; refine (fits3_row ss b off cap _ hm hH.out).mono ?_; rintro e w' ⟨⟨r, rfl⟩, rfl⟩)
  all_goals
    go_ret
    exact ⟨⟨_, rfl⟩, below_alloc1 _ _⟩
theorem fits2_none (k bl ind : Int) (a : Option Addr) (cap : Nat) (w : World) :
    Calls Try.prog 13 #[.agg #[.int .i64 k, .int .i64 bl, .int .i64 ind, .slice a 0 cap]] w fun e w' => IsBool e ∧ Below w.heap.size w w' := by
  go_enter Try.func13, Try.ntmps13
  go_wp2_with (go_at_call 28; refine (fits3_none a cap _).mono ?_; rintro e w' ⟨⟨r, rfl⟩, rfl⟩)
  all_goals
    go_ret
    exact ⟨⟨_, rfl⟩, below_alloc1 _ _⟩
end Go.Proofs.Ythlnciihabhmaaa
