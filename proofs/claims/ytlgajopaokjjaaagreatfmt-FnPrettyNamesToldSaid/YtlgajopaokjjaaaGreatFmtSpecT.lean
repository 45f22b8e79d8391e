/-
  spec.below, spec.under, spec.own, spec.Fits, spec.Tree: what they tell of a tree. Conditions: none.
-/
import Derived.Test.YtlgajopaokjjaaaGreatFmtBase
import Derived.Laws.Closers25b
import Derived.Deep.QuietTactic
namespace Go.Proofs.YtlgajopaokjjaaaGreatFmt
open Go.ChangeShapes Go.WideShapes Go.ChangeAt Go.RowKit Go.Joins

/-- A truth value that is told only if a fact holds. -/
def IfTells (P : Prop) (e : Ending) : Prop := ∃ r, e = .returned (.bool r) ∧ (r = true → P)
theorem ifTells_of {P : Prop} {r : Bool} (h : r = true → P) : IfTells P (.returned (.bool r)) := ⟨r, rfl, h⟩
theorem ifTells_no (P : Prop) : IfTells P (.returned (.bool false)) := ⟨false, rfl, fun h => by cases h⟩
theorem ifTells_yes {P : Prop} (h : P) : IfTells P (.returned (.bool true)) := ⟨true, rfl, fun _ => h⟩

def TellsBelow (k : Int) (e : Ending) : Prop := e = .returned (.tuple #[.int .i64 (belowF k).1, .int .i64 (belowF k).2])
theorem tellsBelow {k a b : Int} (h : belowF k = (a, b)) : TellsBelow k (.returned (.tuple #[.int .i64 a, .int .i64 b])) := by unfold TellsBelow; rw [h]
set_option maxHeartbeats 4000000 in
theorem below_any (k : Int) (w : World) : Calls Tryz.prog 15 #[.int .i64 k] w fun e w' => TellsBelow k e ∧ w = w' := by
  go_enter Tryz.func15, Tryz.ntmps15
  go_wp2
  all_goals
    go_ret2
    refine ⟨tellsBelow ?_, rfl⟩
    simp only [beq_iff_eq, beq_eq_false_iff_ne, ne_eq] at *
    unfold belowF
    (repeat' split) <;> first | rfl | omega
theorem under_any (k i s : Int) (n : Nat) (hi : i = n) (w : World) : Calls Tryz.prog 17 #[.int .i64 k, .int .i64 i, .int .i64 s] w fun e w' => IfTells (underF k n s) e ∧ w = w' := by
  subst hi
  go_enter Tryz.func17, Tryz.ntmps17
  go_wp2
  all_goals
    go_ret
    refine ⟨ifTells_of fun hr => ?_, rfl⟩
    simp only [beq_iff_eq, beq_eq_false_iff_ne, ne_eq, bne_iff_ne, Bool.not_eq_true', Bool.or_eq_true, Bool.and_eq_true] at *
    first
      | exact absurd hr (by decide)
      | (unfold underF; (repeat' split) <;> omega)
theorem signs_any (w : World) : Calls Tryz.prog 31 #[] w fun e w' => e = .returned (.slice (some ⟨w.heap.size, 0, none⟩) 4 4) ∧ Below w.heap.size w w' := by
  go_enter Tryz.func31, Tryz.ntmps31
  go_wp2
  go_ret
  exact ⟨rfl, below_alloc1 _ _⟩
theorem ops_any (w : World) : Calls Tryz.prog 32 #[] w fun e w' => e = .returned (.slice (some ⟨w.heap.size, 0, none⟩) 19 19) ∧ Below w.heap.size w w' := by
  go_enter Tryz.func32, Tryz.ntmps32
  go_wp2
  go_ret
  exact ⟨rfl, below_alloc1 _ _⟩
theorem own_other (k : Int) (tx : ByteArray) (op : Int) (fl : Bool) (u : Value) (l : List Tr) (_hu : u.oneCell' = true) (w : World) (h8 : (k == 8) = false) (h9 : (k == 9) = false) : Calls Tryz.prog 16 #[.agg #[.int .i64 k, .string tx, .int .i64 op, .bool fl, u]] w fun e w' => IfTells (ownF (.mk k tx op fl l)) e ∧ Below w.heap.size w w' := by
  go_enter Tryz.func16, Tryz.ntmps16
  go_wp2
  all_goals
    go_ret
    refine ⟨ifTells_of fun hr => ?_, below_alloc1 _ _⟩
    simp only [beq_iff_eq, beq_eq_false_iff_ne, ne_eq, decide_eq_true_eq, Bool.not_eq_true', toList_nil_iff_emptyBytes] at *
    simp only [ownF, Tr.k, Tr.tx, Tr.op, Tr.fl]
    first
      | exact absurd hr (by decide)
      | (simp_all; done)
end Go.Proofs.YtlgajopaokjjaaaGreatFmt
