/-
  DERIVED. GIVEN WITH THE SEED: THE PROGRAM's TIES (one call each: nine closed facts by the kernel) AND EACH ROW's TIE, after the 31st guide's Derived/Test/Toyas{Tie, Card}.lean. No idea stands in it: it is a product of the set-up. Laid BY PROGRAM, IN A SANDBOX (cutbox-door.mjs). By AI agents, Wed Nov 11 2026. No macro, syntax, notation, axiom, sorry.
-/
import Derived.Test.YthppionkcfkafaaDoorRows
import Derived.LaidByTextLater
import Derived.SevenTiedAt
import Derived.LaidSub
import Derived.LaidOnce
namespace Go.Proofs.YthppionkcfkafaaDoor
open Go
set_option maxRecDepth 100000
theorem seatTie1 : Tryd.prog.laidByTextLater [("bytes.ErrTooLarge", Rows.laid_bytes_ErrTooLarge), ("loop.example/pub-sourcepieces/pub/jsonnet/inner/ast.bopPrecedence", Rows.laid_loop_example_pub_sourcepieces_pub_jsonnet_inner_ast_bopPrecedence)] [.sentinel, .mapped] true :=
  Program.laidByTextLater_by_one 128 8 2 (by kernel_rfl) (by kernel_rfl) (by kernel_rfl) (by kernel_rfl) (by kernel_rfl) (by kernel_rfl) (fun _ _ => by kernel_rfl)
theorem noOwnUnsafe : Tryd.pinned.checked.prog.headLifts.contains "ownunsafe" = false := by kernel_rfl
theorem tie : Tryd.prog.laidByTextLater [("loop.example/pub-sourcepieces/pub/jsonnet/inner/ast.bopPrecedence", Rows.laid_loop_example_pub_sourcepieces_pub_jsonnet_inner_ast_bopPrecedence)] [.mapped] true :=
  Program.laidByTextLater.sub seatTie1 ["loop.example/pub-sourcepieces/pub/jsonnet/inner/ast.bopPrecedence"] (by kernel_rfl) (by kernel_rfl)
theorem fnLevels_row_tie : Rows.fnLevelsRow.laidByTextAt .later Tryd.pinned [.mapped] true :=
  OpenClaim.laidByTextAt_later rfl rfl tie noOwnUnsafe
theorem tie2 : Tryd.prog.laidByTextLater [("bytes.ErrTooLarge", Rows.laid_bytes_ErrTooLarge)] [.sentinel] true :=
  Program.laidByTextLater.sub seatTie1 ["bytes.ErrTooLarge"] (by kernel_rfl) (by kernel_rfl)
theorem fnLines_row_tie : Rows.fnLinesRow.laidByTextAt .later Tryd.pinned [.sentinel] true :=
  OpenClaim.laidByTextAt_later rfl rfl tie2 noOwnUnsafe
theorem fnLineBehind_row_tie : Rows.fnLineBehindRow.laidByTextAt .later Tryd.pinned [.sentinel] true :=
  OpenClaim.laidByTextAt_later rfl rfl tie2 noOwnUnsafe
theorem fnLevelsUpto_row_tie : Rows.fnLevelsUptoRow.laidByTextAt .later Tryd.pinned [.mapped] true :=
  OpenClaim.laidByTextAt_later rfl rfl tie noOwnUnsafe
theorem fnLinesUpto_row_tie : Rows.fnLinesUptoRow.laidByTextAt .later Tryd.pinned [.sentinel] true :=
  OpenClaim.laidByTextAt_later rfl rfl tie2 noOwnUnsafe
theorem fnLineBehindUpto_row_tie : Rows.fnLineBehindUptoRow.laidByTextAt .later Tryd.pinned [.sentinel] true :=
  OpenClaim.laidByTextAt_later rfl rfl tie2 noOwnUnsafe
end Go.Proofs.YthppionkcfkafaaDoor
