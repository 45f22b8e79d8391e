/-
  laws.zzFits6 ends. Conditions: none.
-/
import Derived.Test.YtceepfnjdkfjnaaFmtTree
namespace Go.Proofs.YtceepfnjdkfjnaaFmt
open Go.ChangeShapes Go.WideShapes Go.ChangeAt Go.RowKit Go.Joins

/-- Some truth value. -/
def IsBool (e : Ending) : Prop := ∃ r : Bool, e = .returned (.bool r)
theorem fits6_any (k op : Int) (tx : ByteArray) (fl : Bool) (a : Option Addr) (n c : Nat) (w : World) :
    Calls Tryf.prog 11 #[.agg #[.int .i64 k, .string tx, .int .i64 op, .bool fl, .slice a n c]] w fun e w' => IsBool e ∧ Below w.heap.size w w' := by
  go_enter Tryf.func11, Tryf.ntmps11
  go_wp2
  all_goals
    go_ret
    exact ⟨⟨_, rfl⟩, below_alloc1 _ _⟩
end Go.Proofs.YtceepfnjdkfjnaaFmt
