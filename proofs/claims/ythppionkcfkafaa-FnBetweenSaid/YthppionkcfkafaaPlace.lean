/-
  Places: a place that came in, opened. No condition.
-/
import Derived.Test.YthppionkcfkafaaKit
import Derived.Deep.RegionHeld3
namespace Go.Proofs.Ythppionkcfkafaa
open Go.ChangeShapes Go.WideShapes Go.ChangeAt Go.RowKit Go.Joins

theorem Try.cells23 : Try.prog.cellsOf 23 = 2 := by kernel_rfl

set_option maxRecDepth 100000 in
/-- A place that came in, opened: two numbers. -/
theorem open_place {H : Type} {enc : TypeId × Value → H} {W : World} {base : Nat} {v : Value} {d : DataW H} {ps : List MemPlace}
    (hv : Value.okWide Try.prog W .any base 23 v) (h : DataW.Trod enc Try.prog W 0 (fun _ => true) true 23 v d ps) :
    ∃ l c : Int, v = .agg #[.int .i64 l, .int .i64 c] := by
  obtain ⟨c0, c1, y0, y1, m, rfl, rfl, rfl, hy0, hy1⟩ := open_agg2 Try.underlying23 (by kernel_rfl) Try.cells23 hv h
  obtain ⟨a, e0, rfl, wa⟩ := DataW.trod_int Try.underlying3 hy0
  obtain ⟨b, e1, rfl, wb⟩ := DataW.trod_int Try.underlying3 hy1
  simp at e0 e1
  subst e0 e1
  exact ⟨a, b, rfl⟩

/-- A place is ahead of another one. -/
def bfr (al ac bl bc : Int) : Bool := decide (al < bl) || (al == bl && decide (ac < bc))

theorem place_any (l c : Int) (w : World) :
    Calls Try.prog 8 #[.agg #[.int .i64 l, .int .i64 c]] w fun e w' => e = .returned (.agg #[.int .i64 l, .int .i64 c]) ∧ Below w.heap.size w w' := by
  go_enter Try.func8, Try.ntmps8
  go_wp2
  exact bodyPost_ret (v := .agg #[.int .i64 l, .int .i64 c]) (by simp [results, Try.results8, go_sem]) rfl ⟨rfl, below_alloc2 _ _ _⟩


end Go.Proofs.Ythppionkcfkafaa
