/-
  (*RemovePlusObject).Visit. Conditions: what the base's Visit does.
-/
import Derived.Test.YthhcfkkmbjaeeaaFmtBase
namespace Go.Proofs.YthhcfkkmbjaeeaaFmt
open Go.ChangeShapes Go.WideShapes Go.ChangeAt Go.RowKit Go.Joins
attribute [local go_sem] ta_Binary ta_Var ta_Index ta_Object
set_option maxRecDepth 100000 in
set_option maxHeartbeats 800000 in
theorem drop_other {cb c j b : Nat} {y : TypeId} {w : World} (q : w.cell? ⟨c, j, none⟩ = some (.iface y (.pointer (some ⟨b, 0, none⟩)))) (hy : ¬ y = 72) (hp : PassAt 40 cb w) {Q : Ending → World → Prop} (base : Calls Tryf.prog 65 #[.pointer (some ⟨cb, 0, none⟩), .iface 36 (.pointer (some ⟨cb, 0, none⟩)), .pointer (some ⟨c, j, none⟩), .nilIface] w fun e w' => e = .returned (.tuple #[]) ∧ Q e w') :
    Calls Tryf.prog 63 #[.pointer (some ⟨cb, 0, none⟩), .iface 36 (.pointer (some ⟨cb, 0, none⟩)), .pointer (some ⟨c, j, none⟩), .nilIface] w fun e w' => e = .returned (.tuple #[]) ∧ Q e w' := by
  have B := Lib.hid base
  have pz := partAt_zero (P := Tryf.prog) hp (by kernel_rfl)
  have sh : w.shape? cb = some (40, 0) := by simp [World.shape?, hp]
  clear base hp
  go_enter Tryf.func63, Tryf.ntmps63
  go_wp2_with fail
  refine B.out.mono ?_
  rintro e w1 ⟨rfl, hq⟩
  have HQ := Lib.hid hq
  clear hq
  go_wp2
  go_end0
  exact ⟨rfl, HQ.out⟩
set_option maxRecDepth 100000 in
set_option maxHeartbeats 800000 in
theorem drop_binary {cb c j b b1 b2 : Nat} {y1 y2 : TypeId} {op : Int} {w : World} (q : w.cell? ⟨c, j, none⟩ = some (.iface 72 (.pointer (some ⟨b, 0, none⟩)))) (q0 : w.cell? ⟨b, 0, none⟩ = some (.iface y2 (.pointer (some ⟨b2, 0, none⟩)))) (q1 : w.cell? ⟨b, 1, none⟩ = some (.iface y1 (.pointer (some ⟨b1, 0, none⟩)))) (q12 : w.cell? ⟨b, 12, none⟩ = some (.int .i64 op))
    (h : (¬ y1 = 174 ∧ ¬ y1 = 91) ∨ ((y1 = 174 ∨ y1 = 91) ∧ (¬ y2 = 131 ∨ (y2 = 131 ∧ ¬ op = 3)))) (hp : PassAt 40 cb w) {Q : Ending → World → Prop} (base : Calls Tryf.prog 65 #[.pointer (some ⟨cb, 0, none⟩), .iface 36 (.pointer (some ⟨cb, 0, none⟩)), .pointer (some ⟨c, j, none⟩), .nilIface] w fun e w' => e = .returned (.tuple #[]) ∧ Q e w') :
    Calls Tryf.prog 63 #[.pointer (some ⟨cb, 0, none⟩), .iface 36 (.pointer (some ⟨cb, 0, none⟩)), .pointer (some ⟨c, j, none⟩), .nilIface] w fun e w' => e = .returned (.tuple #[]) ∧ Q e w' := by
  have B := Lib.hid base
  have pz := partAt_zero (P := Tryf.prog) hp (by kernel_rfl)
  have sh : w.shape? cb = some (40, 0) := by simp [World.shape?, hp]
  clear base hp
  rcases h with ⟨h1, h2⟩ | ⟨rfl | rfl, h3 | ⟨rfl, h4⟩⟩
  case inr.inl.inr =>
    have d : (op == 3) = false := by rw [beq_eq_false_iff_ne]; exact h4
    clear h4
    go_enter Tryf.func63, Tryf.ntmps63
    go_wp2_with fail
    refine B.out.mono ?_
    rintro e w1 ⟨rfl, hq⟩
    have HQ := Lib.hid hq
    clear hq
    go_wp2
    go_end0
    exact ⟨rfl, HQ.out⟩
  case inr.inr.inr =>
    have d : (op == 3) = false := by rw [beq_eq_false_iff_ne]; exact h4
    clear h4
    go_enter Tryf.func63, Tryf.ntmps63
    go_wp2_with fail
    refine B.out.mono ?_
    rintro e w1 ⟨rfl, hq⟩
    have HQ := Lib.hid hq
    clear hq
    go_wp2
    go_end0
    exact ⟨rfl, HQ.out⟩
  all_goals
    go_enter Tryf.func63, Tryf.ntmps63
    go_wp2_with fail
    refine B.out.mono ?_
    rintro e w1 ⟨rfl, hq⟩
    have HQ := Lib.hid hq
    clear hq
    go_wp2
    go_end0
    exact ⟨rfl, HQ.out⟩
end Go.Proofs.YthhcfkkmbjaeeaaFmt
