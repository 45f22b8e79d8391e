/-
  fmt.Sprintf of a number as four figures: what the walk asks, and what is told. Nothing here is trusted.
-/
import Derived.Test.YtceepfnjdkfjnaaFmtStrKit
import Derived.Stop.CallBack
import Derived.Stop.IfaceNil
import Derived.Stop.JoinedTold
import Derived.Stop.JoinedAt
import Derived.Stop.Texts
import Derived.Stop.FmtTextKit
import GoSem.ClaimData
import Derived.WalkSpells
import Derived.Lib.ConvBytes
namespace Go.Proofs.YtceepfnjdkfjnaaFmt
open Go.ChangeShapes Go.WideShapes Go.ChangeAt Go.RowKit Go.Joins Go.Extern.Stop Go.Stop Go.Extern

theorem callSprintf (args : Array Value) (w : World) : (callFunc 48 args).run Tryf.prog w = ((FmtStop.sprintf #[9, 338] #[9] args).run Tryf.prog w).andThen fun v w' => .ok (.value v) w' :=
  run_callFunc_extern Tryf.func48 (by kernel_rfl) (by kernel_rfl) (by kernel_rfl) (by kernel_rfl) args w
theorem fmtGuard (name : String) (w : World) : (FmtStop.guard name).run Tryf.prog w = .ok () w := by kernel_rfl
theorem fmtX (w : World) : (FmtDoors.printed ⟨#[37, 48, 52, 120]⟩ 1).run Tryf.prog w = .ok [(0, 120, false)] w := by kernel_rfl
theorem fmtXp : FmtStop.printed? ⟨#[37, 48, 52, 120]⟩ 1 = some [(0, 120, false)] := by kernel_rfl
def shapeInt : List UInt8 := [5, 3, 0, 0, 0, 0, 0, 0, 0, 105, 110, 116]
theorem opX (name : String) (x : Int) (w : World) : (FmtStop.operand name false 120 false (.iface 3 (.int .i64 x))).run Tryf.prog w = .ok (shapeInt, Go.Extern.Stop.digits 8 (x % 2 ^ 64).toNat) w := by kernel_rfl
set_option maxRecDepth 100000 in
theorem textX : ∀ r, r < 160 → FmtText.text "fmt.Sprintf" [[37, 48, 52, 120], shapeInt, Go.Extern.Stop.digits 8 ((r : Int) % 2 ^ 64).toNat] = some (hex4 r) := by decide +kernel
theorem textX_is (F : Interp) {r : Nat} (hr : r < 160) : FmtStop.textOf (F.told "fmt.Sprintf" [[37, 48, 52, 120], shapeInt, Go.Extern.Stop.digits 8 (r % 18446744073709551616)] 0) = bs (hex4 r) := by
  have ht := told_string F (textX r hr) (by simp [hex4])
  have e : ((r : Int) % 2 ^ 64).toNat = r % 18446744073709551616 := by omega
  rw [e] at ht
  rw [← bs_list (FmtStop.textOf _), Go.Kit.textOf_list, ht]
/-- The text's bytes, in a new row. -/
theorem four_bytes (F : Interp) {r : Nat} (hr : r < 160) (W : World) : ∃ cap W5, (convert 9 79 (.string (FmtStop.textOf (F.told "fmt.Sprintf" [[37, 48, 52, 120], shapeInt, Go.Extern.Stop.digits 8 (r % 18446744073709551616)] 0)))).run Tryf.prog W = .ok (.slice (some ⟨W.heap.size, 0, none⟩) 4 cap) W5 ∧
    (∀ j v, (Lib.byteCells (hex4 r))[j]? = some v → W5.cell? ((⟨W.heap.size, 0, none⟩ : Addr).add j) = some v) ∧ Below W.heap.size W W5 := by
  rw [textX_is F hr]
  refine ⟨_, Lib.bytesWorld W 5 (bs (hex4 r)), Lib.run_convert_string_bytes W 9 79 5 (bs (hex4 r)) Tryf.underlying9 Tryf.underlying79 Tryf.underlying5, fun j v hj => ?_, ?_⟩
  · have hl : j < (hex4 r).length := by
      have := (List.getElem?_eq_some_iff.1 hj).1
      simpa [Lib.byteCells_length] using this
    have hadd : (⟨W.heap.size, 0, none⟩ : Addr).add j = ⟨W.heap.size, j, none⟩ := by unfold Addr.add; split <;> simp_all
    rw [hadd, Lib.bytesWorld_cell _ _ _ _ (by rw [bs_size]; exact hl)]
    rw [← hj]
    simp [Lib.byteCells, bs, List.getD, hl]
  · exact ⟨rfl, rfl, rfl, by rw [Lib.bytesWorld_size]; omega, fun k hk => Lib.bytesWorld_at_old W _ _ k hk⟩
end Go.Proofs.YtceepfnjdkfjnaaFmt
