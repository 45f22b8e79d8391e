/-
  spec.Before. No condition.
-/
import Derived.Test.YthppionkcfkafaaPlace
namespace Go.Proofs.Ythppionkcfkafaa
open Go.ChangeShapes Go.WideShapes Go.ChangeAt Go.RowKit Go.Joins

theorem specBefore_any (al ac bl bc : Int) (w : World) :
    Calls Try.prog 6 #[.agg #[.int .i64 al, .int .i64 ac], .agg #[.int .i64 bl, .int .i64 bc]] w fun e w' => e = .returned (.bool (bfr al ac bl bc)) ∧ Below w.heap.size w w' := by
  by_cases h0 : al < bl
  · have e : bfr al ac bl bc = true := by simp [bfr, h0]
    rw [e]
    go_enter Try.func6, Try.ntmps6
    go_wp2
    go_ret
    exact ⟨rfl, below_alloc2 _ _ _⟩
  · have d0 : decide (al < bl) = false := by simp; omega
    by_cases h1 : al = bl
    · subst h1
      have e : bfr al ac al bc = decide (ac < bc) := by simp [bfr]
      rw [e]
      have e1 : (al == al) = true := by simp
      go_enter Try.func6, Try.ntmps6
      go_wp2
      go_ret
      exact ⟨rfl, below_alloc2 _ _ _⟩
    · have e1 : (al == bl) = false := by rw [beq_eq_false_iff_ne]; exact h1
      have e : bfr al ac bl bc = false := by simp [bfr, e1, d0]
      rw [e]
      go_enter Try.func6, Try.ntmps6
      go_wp2
      go_ret
      exact ⟨rfl, below_alloc2 _ _ _⟩
end Go.Proofs.Ythppionkcfkafaa
