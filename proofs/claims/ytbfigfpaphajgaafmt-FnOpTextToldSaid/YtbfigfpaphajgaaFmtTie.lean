/-
  DERIVED. GIVEN WITH THE SEED: THE PROGRAM's TIES (one call each: nine closed facts by the kernel) AND EACH ROW's TIE, after the 31st guide's Derived/Test/Toyas{Tie, Card}.lean. No idea stands in it: it is a product of the set-up. Laid BY PROGRAM, IN A SANDBOX (cutbox-door.mjs). By AI agents, Wed Nov 11 2026. No macro, syntax, notation, axiom, sorry.
-/
import Derived.Test.YtbfigfpaphajgaaFmtRows
import Derived.LaidByTextLater
import Derived.SevenTiedAt
import Derived.LaidSub
import Derived.LaidOnce
namespace Go.Proofs.YtbfigfpaphajgaaFmt
open Go
set_option maxRecDepth 100000
theorem seatTie1 : Tryf.prog.laidByTextLater [("loop.example/pub-sourcepieces/pub/jsonnet/ast.bopStrings", Rows.laid_loop_example_pub_sourcepieces_pub_jsonnet_ast_bopStrings), ("loop.example/pub-sourcepieces/pub/jsonnet/ast.uopStrings", Rows.laid_loop_example_pub_sourcepieces_pub_jsonnet_ast_uopStrings)] [.data, .data] true :=
  Program.laidByTextLater_by_one 19 8 20 (by kernel_rfl) (by kernel_rfl) (by kernel_rfl) (by kernel_rfl) (by kernel_rfl) (by kernel_rfl) (fun _ _ => by kernel_rfl)
theorem noOwnUnsafe : Tryf.pinned.checked.prog.headLifts.contains "ownunsafe" = false := by kernel_rfl
theorem tie : Tryf.prog.laidByTextLater [("loop.example/pub-sourcepieces/pub/jsonnet/ast.bopStrings", Rows.laid_loop_example_pub_sourcepieces_pub_jsonnet_ast_bopStrings)] [.data] true :=
  Program.laidByTextLater.sub seatTie1 ["loop.example/pub-sourcepieces/pub/jsonnet/ast.bopStrings"] (by kernel_rfl) (by kernel_rfl)
theorem fnOpText_row_tie : Rows.fnOpTextRow.laidByTextAt .later Tryf.pinned [.data] true :=
  OpenClaim.laidByTextAt_later rfl rfl tie noOwnUnsafe
theorem tie2 : Tryf.prog.laidByTextLater [("loop.example/pub-sourcepieces/pub/jsonnet/ast.uopStrings", Rows.laid_loop_example_pub_sourcepieces_pub_jsonnet_ast_uopStrings)] [.data] true :=
  Program.laidByTextLater.sub seatTie1 ["loop.example/pub-sourcepieces/pub/jsonnet/ast.uopStrings"] (by kernel_rfl) (by kernel_rfl)
theorem fnSignText_row_tie : Rows.fnSignTextRow.laidByTextAt .later Tryf.pinned [.data] true :=
  OpenClaim.laidByTextAt_later rfl rfl tie2 noOwnUnsafe
end Go.Proofs.YtbfigfpaphajgaaFmt
