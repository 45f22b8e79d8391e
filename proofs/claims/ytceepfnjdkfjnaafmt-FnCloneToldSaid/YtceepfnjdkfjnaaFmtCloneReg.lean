/-
  ast.cloneNodeBase, at a node without a context whose free variables are an empty list. Conditions: none.
-/
import Derived.Test.YtceepfnjdkfjnaaFmtCloneBase
namespace Go.Proofs.YtceepfnjdkfjnaaFmt
open Go.ChangeShapes Go.WideShapes Go.ChangeAt Go.RowKit Go.Joins
set_option maxRecDepth 100000 in
set_option maxHeartbeats 16000000 in
theorem base_any {w : World} {y : TypeId} {b off : Nat} {cs : Array Value} {T : TypeId} {p1 : Option Addr} {n1 : Nat} (hm : Based y b off) (hb : w.heap[b]? = some (.cells cs T)) (c1 : cs[off + 1]? = some (.pointer none)) (c2 : cs[off + 2]? = some (.slice p1 0 n1)) :
    Calls Tryf.prog 62 #[.iface y (.pointer (some ⟨b, 0, none⟩))] w fun e w' => e = .returned (.tuple #[]) ∧ (∃ g n, w'.heap[b]? = some (.cells (cs.setIfInBounds (off + 2) (.slice g 0 n)) T)) ∧ w.grownBy w' (some b) := by
  have HB := Lib.hid hb
  have zb := heap_lt hb
  have Q1 := Lib.hid (cell_of hb c1)
  have C2 := Lib.hid c2
  obtain ⟨m1, m2, m3, m4⟩ := hm
  have M2 := Lib.hid m2; have M3 := Lib.hid m3; have M4 := Lib.hid m4
  clear hb c1 c2 m2 m3 m4
  go_enter Tryf.func62, Tryf.ntmps62
  go_wp2_with fail
  refine (context_none Q1.out).mono ?_
  rintro e w1 ⟨rfl, rfl⟩
  have m2 := M2.out; have m3 := M3.out; have m4 := M4.out
  clear m1
  go_wp2_with fail
  have mk := mk_ids
  rcases p1 with _ | a1
  all_goals
    go_region_with (first
      | (go_at_call 93; refine (freeVars_is (b := b) (off := off) (cell_of (by (repeat (first | with_reducible exact HB.out | with_reducible refine bk_drew ?_ | with_reducible refine bk_alloc ?_))) C2.out)).mono ?_; rintro e w4 ⟨rfl, rfl⟩)
      | (go_at_call 95; refine (setFreeVars_is (b := b) (off := off) (cell_of (by (repeat (first | with_reducible exact HB.out | with_reducible refine bk_drew ?_ | with_reducible refine bk_alloc ?_))) C2.out) (fun i => unfrozen_of_block (by (repeat (first | with_reducible exact HB.out | with_reducible refine bk_drew ?_ | with_reducible refine bk_alloc ?_))) i)).mono ?_; rintro e w4 ⟨rfl, rfl⟩))
  all_goals
    go_end0
    refine ⟨rfl, ⟨some ⟨w.heap.size, 0, none⟩, 0, ?_⟩, ?_⟩
    · first | exact bk_drew (bk_alloc (set_same HB.out)) | exact bk_drew (set_same (bk_alloc HB.out))
    · first | exact grown_alloc' (grown_set _ _ _ _) _ | exact grown_then (World.grownBy_alloc _ _ _) (grown_set _ _ _ _)
end Go.Proofs.YtceepfnjdkfjnaaFmt
