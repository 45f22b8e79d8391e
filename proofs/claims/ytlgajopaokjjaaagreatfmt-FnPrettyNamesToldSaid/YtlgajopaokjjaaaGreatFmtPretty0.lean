/-
  PrettyFieldNames: which methods they have. Conditions: where the pass lies.
-/
import Derived.Test.YtlgajopaokjjaaaGreatFmtPassNode
import Derived.Test.YtlgajopaokjjaaaGreatFmtBase
namespace Go.Proofs.YtlgajopaokjjaaaGreatFmt
open Go.ChangeShapes Go.WideShapes Go.ChangeAt Go.RowKit Go.Joins
theorem prettyP (cb : Nat) : PassVisits 59 35 39 cb where
  visit := fun w h => method_zero (by kernel_rfl) Tryz.underlying39 rfl rfl rfl (by kernel_rfl) Tryz.underlying37 h (by kernel_rfl)
  enter := fun args w => by kernel_rfl
  visit0 := fun w => by kernel_rfl
  fodder := fun w h => method_zero (by kernel_rfl) Tryz.underlying39 rfl rfl rfl (by kernel_rfl) Tryz.underlying37 h (by kernel_rfl)
  fodder0 := fun w => by kernel_rfl
theorem prettyM (cb : Nat) : PassMeths 35 39 cb 90 103 104 where
  eLiteralNull := fun args w => by kernel_rfl
  mLiteralNull := fun w h => method_zero (by kernel_rfl) Tryz.underlying39 rfl rfl rfl (by kernel_rfl) Tryz.underlying37 h (by kernel_rfl)
  eLiteralBoolean := fun args w => by kernel_rfl
  mLiteralBoolean := fun w h => method_zero (by kernel_rfl) Tryz.underlying39 rfl rfl rfl (by kernel_rfl) Tryz.underlying37 h (by kernel_rfl)
  eLiteralNumber := fun args w => by kernel_rfl
  mLiteralNumber := fun w h => method_zero (by kernel_rfl) Tryz.underlying39 rfl rfl rfl (by kernel_rfl) Tryz.underlying37 h (by kernel_rfl)
  eLiteralString := fun args w => by kernel_rfl
  mLiteralString := fun w h => method_zero (by kernel_rfl) Tryz.underlying39 rfl rfl rfl (by kernel_rfl) Tryz.underlying37 h (by kernel_rfl)
  eSelf := fun args w => by kernel_rfl
  mSelf := fun w h => method_zero (by kernel_rfl) Tryz.underlying39 rfl rfl rfl (by kernel_rfl) Tryz.underlying37 h (by kernel_rfl)
  eDollar := fun args w => by kernel_rfl
  mDollar := fun w h => method_zero (by kernel_rfl) Tryz.underlying39 rfl rfl rfl (by kernel_rfl) Tryz.underlying37 h (by kernel_rfl)
  eVar := fun args w => by kernel_rfl
  mVar := fun w h => method_zero (by kernel_rfl) Tryz.underlying39 rfl rfl rfl (by kernel_rfl) Tryz.underlying37 h (by kernel_rfl)
  eUnary := fun args w => by kernel_rfl
  mUnary := fun w h => method_zero (by kernel_rfl) Tryz.underlying39 rfl rfl rfl (by kernel_rfl) Tryz.underlying37 h (by kernel_rfl)
  eBinary := fun args w => by kernel_rfl
  mBinary := fun w h => method_zero (by kernel_rfl) Tryz.underlying39 rfl rfl rfl (by kernel_rfl) Tryz.underlying37 h (by kernel_rfl)
  eConditional := fun args w => by kernel_rfl
  mConditional := fun w h => method_zero (by kernel_rfl) Tryz.underlying39 rfl rfl rfl (by kernel_rfl) Tryz.underlying37 h (by kernel_rfl)
  eApplyBrace := fun args w => by kernel_rfl
  mApplyBrace := fun w h => method_zero (by kernel_rfl) Tryz.underlying39 rfl rfl rfl (by kernel_rfl) Tryz.underlying37 h (by kernel_rfl)
  eIndex := fun args w => by kernel_rfl
  mIndex := fun w _ => by kernel_rfl
  eError := fun args w => by kernel_rfl
  mError := fun w h => method_zero (by kernel_rfl) Tryz.underlying39 rfl rfl rfl (by kernel_rfl) Tryz.underlying37 h (by kernel_rfl)
  eParens := fun args w => by kernel_rfl
  mParens := fun w h => method_zero (by kernel_rfl) Tryz.underlying39 rfl rfl rfl (by kernel_rfl) Tryz.underlying37 h (by kernel_rfl)
  eApply := fun args w => by kernel_rfl
  mApply := fun w h => method_zero (by kernel_rfl) Tryz.underlying39 rfl rfl rfl (by kernel_rfl) Tryz.underlying37 h (by kernel_rfl)
  eArray := fun args w => by kernel_rfl
  mArray := fun w h => method_zero (by kernel_rfl) Tryz.underlying39 rfl rfl rfl (by kernel_rfl) Tryz.underlying37 h (by kernel_rfl)
  eObject := fun args w => by kernel_rfl
  mObject := fun w h => method_zero (by kernel_rfl) Tryz.underlying39 rfl rfl rfl (by kernel_rfl) Tryz.underlying37 h (by kernel_rfl)
  eObjectField := fun args w => by kernel_rfl
  mObjectField := fun w _ => by kernel_rfl
  nObjectField := fun w => by kernel_rfl
  nArguments := fun w => by kernel_rfl
  mArguments := fun w h => method_zero (by kernel_rfl) Tryz.underlying39 rfl rfl rfl (by kernel_rfl) Tryz.underlying37 h (by kernel_rfl)
  nObjectFields := fun w => by kernel_rfl
  mObjectFields := fun w h => method_zero (by kernel_rfl) Tryz.underlying39 rfl rfl rfl (by kernel_rfl) Tryz.underlying37 h (by kernel_rfl)
  mFieldParams := fun w h => method_zero (by kernel_rfl) Tryz.underlying39 rfl rfl rfl (by kernel_rfl) Tryz.underlying37 h (by kernel_rfl)
theorem prettyBase {cb : Nat} {w : World} (h : PassAt 39 cb w) : (partAt ⟨cb, 0, none⟩ 0 0).run Tryz.prog w = .ok ⟨cb, 0, none⟩ w := partAt_zero h (by kernel_rfl)
end Go.Proofs.YtlgajopaokjjaaaGreatFmt
