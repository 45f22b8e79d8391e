/-
  parser.IsValidIdentifier: whether a text is a name. Conditions: the text's length.
-/
import Derived.Test.YtlgajopaokjjaaaGreatFmtBase
import Derived.Lib.RuneLoops
import Derived.Lib.TrimUEq
namespace Go.Proofs.YtlgajopaokjjaaaGreatFmt
open Go.ChangeShapes Go.WideShapes Go.ChangeAt Go.RowKit Go.Joins
def keyLit : List (List UInt8) := [[97, 115, 115, 101, 114, 116], [101, 108, 115, 101], [101, 114, 114, 111, 114], [102, 97, 108, 115, 101], [102, 111, 114], [102, 117, 110, 99, 116, 105, 111, 110], [105, 102], [105, 109, 112, 111, 114, 116], [105, 109, 112, 111, 114, 116, 115, 116, 114], [105, 109, 112, 111, 114, 116, 98, 105, 110], [105, 110], [108, 111, 99, 97, 108], [110, 117, 108, 108], [116, 97, 105, 108, 115, 116, 114, 105, 99, 116], [116, 104, 101, 110], [115, 101, 108, 102], [115, 117, 112, 101, 114], [116, 114, 117, 101]]
theorem keysL_lit : keysL = keyLit := by decide +kernel
set_option maxHeartbeats 1000000 in
theorem token_any (s : ByteArray) (w : World) : Calls Tryz.prog 112 #[.string s] w fun e w' => (∃ v : Int, e = .returned (.int .i64 v) ∧ (v == 10) = !keyLit.contains s.toList) ∧ w = w' := by
  go_enter Tryz.func112, Tryz.ntmps112
  go_wp2
  all_goals
    go_ret
    refine ⟨⟨_, rfl, ?_⟩, rfl⟩
    simp_all [keyLit]
def firstR (r : Int) : Bool := (decide (65 ≤ r) && decide (r ≤ 90)) || (decide (97 ≤ r) && decide (r ≤ 122)) || r == 95
def restR (r : Int) : Bool := firstR r || (decide (48 ≤ r) && decide (r ≤ 57))
theorem upper_any (r : Int) (w : World) : Calls Tryz.prog 114 #[.int .i32 r] w fun e w' => e = .returned (.bool (decide (65 ≤ r) && decide (r ≤ 90))) ∧ w = w' := by
  by_cases h1 : 65 ≤ r <;> by_cases h2 : r ≤ 90
  all_goals
    go_enter Tryz.func114, Tryz.ntmps114
    go_wp2
    go_ret
    exact ⟨by simp [*], rfl⟩
theorem lower_any (r : Int) (w : World) : Calls Tryz.prog 115 #[.int .i32 r] w fun e w' => e = .returned (.bool (decide (97 ≤ r) && decide (r ≤ 122))) ∧ w = w' := by
  by_cases h1 : 97 ≤ r <;> by_cases h2 : r ≤ 122
  all_goals
    go_enter Tryz.func115, Tryz.ntmps115
    go_wp2
    go_ret
    exact ⟨by simp [*], rfl⟩
theorem number_any (r : Int) (w : World) : Calls Tryz.prog 116 #[.int .i32 r] w fun e w' => e = .returned (.bool (decide (48 ≤ r) && decide (r ≤ 57))) ∧ w = w' := by
  by_cases h1 : 48 ≤ r <;> by_cases h2 : r ≤ 57
  all_goals
    go_enter Tryz.func116, Tryz.ntmps116
    go_wp2
    go_ret
    exact ⟨by simp [*], rfl⟩
theorem firstId_any (r : Int) (w : World) : Calls Tryz.prog 110 #[.int .i32 r] w fun e w' => e = .returned (.bool (firstR r)) ∧ w = w' := by
  have hU := upper_any r w
  have hL := lower_any r w
  unfold firstR
  generalize (decide (65 ≤ r) && decide (r ≤ 90)) = u at hU ⊢
  generalize (decide (97 ≤ r) && decide (r ≤ 122)) = l at hL ⊢
  have HU := Lib.hid hU; have HL := Lib.hid hL
  clear hU hL
  generalize hx : (r == 95) = x
  cases u <;> cases l <;> cases x
  all_goals
    go_enter Tryz.func110, Tryz.ntmps110
    go_wp2_with (first
      | (go_at_call 114; refine HU.out.mono ?_; rintro e w1 ⟨rfl, rfl⟩)
      | (go_at_call 115; refine HL.out.mono ?_; rintro e w1 ⟨rfl, rfl⟩))
    go_ret
    exact ⟨by simp [*], rfl⟩
theorem restId_any (r : Int) (w : World) : Calls Tryz.prog 111 #[.int .i32 r] w fun e w' => e = .returned (.bool (restR r)) ∧ w = w' := by
  have hU := firstId_any r w
  have hL := number_any r w
  unfold restR
  generalize firstR r = u at hU ⊢
  generalize (decide (48 ≤ r) && decide (r ≤ 57)) = l at hL ⊢
  have HU := Lib.hid hU; have HL := Lib.hid hL
  clear hU hL
  cases u <;> cases l
  all_goals
    go_enter Tryz.func111, Tryz.ntmps111
    go_wp2_with (first
      | (go_at_call 110; refine HU.out.mono ?_; rintro e w1 ⟨rfl, rfl⟩)
      | (go_at_call 116; refine HL.out.mono ?_; rintro e w1 ⟨rfl, rfl⟩))
    go_ret
    exact ⟨by simp [*], rfl⟩
end Go.Proofs.YtlgajopaokjjaaaGreatFmt
