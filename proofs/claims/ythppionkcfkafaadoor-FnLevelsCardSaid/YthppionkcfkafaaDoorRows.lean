/-
  NARROWER THAN 'FOR EVERY INPUT', by the rows' own cells (each row's printed sentence says how): FnLevels: loops, maps, laid · FnLines: laid · FnLineBehind: laid.
  DERIVED. THE GIVEN ROWS OF THIS SEAT. 3 by the template 'for every input the law returns true; each argument reads behind the call as it read before'; 0 by the template 'total and deterministic' (their statements: YthppionkcfkafaaDoorTotals.lean).
  GIVEN WITH THE SEED: the statements are not yours to turn. If you find one false, say at which input.
  Laid BY PROGRAM, IN A SANDBOX (cutbox-rows.mjs): the forced cells as the released guide's own fill.sh prints them over the translation 9c77060bc6e88a16… (all of the seat's roots in one cut). By AI agents, Wed Nov 11 2026. No macro, syntax, notation, axiom, sorry.
-/
import Derived.Test.YthppionkcfkafaaDoorChecked
import GoSem.Claim
import GoSem.ClaimJoined
import GoSem.ClaimMapViews
import Derived.JoinedTies
import Derived.KernelRfl
namespace Go.Proofs.YthppionkcfkafaaDoor
/- THE CELL 'sum', in the pinned program and in every row, IS THE sha256 OF THE DUMP (.gsa) THAT YthppionkcfkafaaDoorProg.lean LOADS. Nothing in Lean hashes anything: it is a label: what it is worth is what the hold of that sum in a sandbox is worth. -/
noncomputable def Tryd.pinned : Pinned := { name := "ythppionkcfkafaadoor", sum := "9c77060bc6e88a160bbcd09c3f12c7a14be18ee701cf8a946b79c45e43440c02", checked := Tryd.checked }
namespace Rows
def none {H : Type} : Left H := { results := [], args := [] }

/- WHAT THE LISTED PACKAGE-LEVEL VARIABLES READ AS WHEN THE CALL BEGINS. Each datum BY PROGRAM (the guide's laid-datum.mjs) off the statement by which the dump's own 'gosem.cut.vars' lays the variable. In a bare row this is a premise. The card (YthppionkcfkafaaDoorCards.lean) ties it to the program's text. -/
def laid_loop_example_pub_sourcepieces_pub_jsonnet_inner_ast_bopPrecedence {H : Type} : DataW H := .map [(.int .i64 0, .lit (.int .i64 5)), (.int .i64 1, .lit (.int .i64 5)), (.int .i64 2, .lit (.int .i64 5)), (.int .i64 3, .lit (.int .i64 6)), (.int .i64 4, .lit (.int .i64 6)), (.int .i64 5, .lit (.int .i64 7)), (.int .i64 6, .lit (.int .i64 7)), (.int .i64 7, .lit (.int .i64 8)), (.int .i64 8, .lit (.int .i64 8)), (.int .i64 9, .lit (.int .i64 8)), (.int .i64 10, .lit (.int .i64 8)), (.int .i64 11, .lit (.int .i64 8)), (.int .i64 12, .lit (.int .i64 9)), (.int .i64 13, .lit (.int .i64 9)), (.int .i64 14, .lit (.int .i64 10)), (.int .i64 15, .lit (.int .i64 11)), (.int .i64 16, .lit (.int .i64 12)), (.int .i64 17, .lit (.int .i64 13)), (.int .i64 18, .lit (.int .i64 14))]
def laid_bytes_ErrTooLarge {H : Type} : DataW H := .iface "*errors.errorString" (.ptr (.agg [.lit (.string [98, 121, 116, 101, 115, 46, 66, 117, 102, 102, 101, 114, 58, 32, 116, 111, 111, 32, 108, 97, 114, 103, 101])]))

/-- 'laws.FnLevels': WHATEVER THE INPUT: true; the input reads as it did. -/
def fnLevelsSpec : ChangeSpec := { name := "fnLevels", vars := ["loop.example/pub-sourcepieces/pub/jsonnet/inner/ast.bopPrecedence"], fn := fun _ => fun
  | [d1, d2, g1] => { results := [.lit (.bool true)], args := [d1, d2], vars := [g1] }
  | _ => none }
def fnLevelsRow : OpenClaim := { program := "ythppionkcfkafaadoor", sum := "9c77060bc6e88a160bbcd09c3f12c7a14be18ee701cf8a946b79c45e43440c02", func := "loop.example/pub-sourcepieces/laws.FnLevels", spec := "fnLevels", recurses := true, named := ["loop.example/pub-sourcepieces/pub/jsonnet/inner/ast.bopPrecedence"], maps := true, loops := true, apart := false, laid := [("loop.example/pub-sourcepieces/pub/jsonnet/inner/ast.bopPrecedence", laid_loop_example_pub_sourcepieces_pub_jsonnet_inner_ast_bopPrecedence)] }
def FnLevelsSaid : Prop := fnLevelsRow.holds Tryd.pinned (OpenSpec.ofChange fnLevelsSpec)

/-- ITS FALSE NEIGHBOUR: 'it returns false'. Refute it at one input. -/
def fnLevelsWrong : ChangeSpec := { name := "fnLevels", vars := ["loop.example/pub-sourcepieces/pub/jsonnet/inner/ast.bopPrecedence"], fn := fun _ => fun
  | [d1, d2, g1] => { results := [.lit (.bool false)], args := [d1, d2], vars := [g1] }
  | _ => none }
def FnLevelsWrongFalsely : Prop := fnLevelsRow.holds Tryd.pinned (OpenSpec.ofChange fnLevelsWrong)

/-- 'laws.FnLines': WHATEVER THE INPUT: true; the input reads as it did. -/
def fnLinesSpec : ChangeSpec := { name := "fnLines", fn := fun _ => fun
  | [d] => { results := [.lit (.bool true)], args := [d] }
  | _ => none }
def fnLinesRow : OpenClaim := { program := "ythppionkcfkafaadoor", sum := "9c77060bc6e88a160bbcd09c3f12c7a14be18ee701cf8a946b79c45e43440c02", func := "loop.example/pub-sourcepieces/laws.FnLines", spec := "fnLines", named := ["bytes.ErrTooLarge"], apart := false, laid := [("bytes.ErrTooLarge", laid_bytes_ErrTooLarge)] }
def FnLinesSaid : Prop := fnLinesRow.holds Tryd.pinned (OpenSpec.ofChange fnLinesSpec)

/-- ITS FALSE NEIGHBOUR: 'it returns false'. Refute it at one input. -/
def fnLinesWrong : ChangeSpec := { name := "fnLines", fn := fun _ => fun
  | [d] => { results := [.lit (.bool false)], args := [d] }
  | _ => none }
def FnLinesWrongFalsely : Prop := fnLinesRow.holds Tryd.pinned (OpenSpec.ofChange fnLinesWrong)

/-- 'laws.FnLineBehind': WHATEVER THE INPUT: true; the input reads as it did. -/
def fnLineBehindSpec : ChangeSpec := { name := "fnLineBehind", fn := fun _ => fun
  | [d1, d2] => { results := [.lit (.bool true)], args := [d1, d2] }
  | _ => none }
def fnLineBehindRow : OpenClaim := { program := "ythppionkcfkafaadoor", sum := "9c77060bc6e88a160bbcd09c3f12c7a14be18ee701cf8a946b79c45e43440c02", func := "loop.example/pub-sourcepieces/laws.FnLineBehind", spec := "fnLineBehind", named := ["bytes.ErrTooLarge"], apart := false, laid := [("bytes.ErrTooLarge", laid_bytes_ErrTooLarge)] }
def FnLineBehindSaid : Prop := fnLineBehindRow.holds Tryd.pinned (OpenSpec.ofChange fnLineBehindSpec)

/-- ITS FALSE NEIGHBOUR: 'it returns false'. Refute it at one input. -/
def fnLineBehindWrong : ChangeSpec := { name := "fnLineBehind", fn := fun _ => fun
  | [d1, d2] => { results := [.lit (.bool false)], args := [d1, d2] }
  | _ => none }
def FnLineBehindWrongFalsely : Prop := fnLineBehindRow.holds Tryd.pinned (OpenSpec.ofChange fnLineBehindWrong)

/- THE SECOND FORM. 'bulk': how many values and letters a reading holds, each counted each time it is reached (what is shared counts as often as it is met; a slice's spare places count too). A statement '..UptoSaid' is the law's where the arguments, and the package variables that the reading takes, are together of bulk at most 1048576: NARROWER than '..Said'. Prove '..Said' where nothing that the law and all that it calls make is longer than what came in: it says more and counts as full. Else prove '..UptoSaid'. A law counts once. -/
mutual
def uptoBulk {H : Type} : DataW H → Nat
  | .lit (.string bytes) => bytes.length + 1
  | .lit _ => 1
  | .nil => 1
  | .ptr d => uptoBulk d + 1
  | .slice elems spare => uptoBulkAll elems + uptoBulkAll spare + 1
  | .agg parts => uptoBulkAll parts + 1
  | .iface _ d => uptoBulk d + 1
  | .map entries => uptoBulkEntries entries + 1
  | .held _ => 1
def uptoBulkAll {H : Type} : List (DataW H) → Nat
  | [] => 0
  | d :: r => uptoBulk d + uptoBulkAll r
def uptoBulkEntries {H : Type} : List (Lit × DataW H) → Nat
  | [] => 0
  | x :: r => uptoBulkEntry x + uptoBulkEntries r
def uptoBulkEntry {H : Type} : Lit × DataW H → Nat
  | (.string bytes, d) => bytes.length + uptoBulk d + 1
  | (_, d) => uptoBulk d + 1
 end
def uptoSmall : (H : Type) → List (DataW H) → Bool := fun _ ds => decide (uptoBulkAll ds ≤ 1048576)
def OpenSpec.upto (s : _root_.Go.ChangeSpec) : _root_.Go.OpenSpec := { _root_.Go.OpenSpec.ofChange s with cond := some uptoSmall }

/-- 'laws.FnLevels', WHERE WHAT IT READS IS OF BULK AT MOST 1048576: true; the input reads as it did. -/
def fnLevelsUptoRow : OpenClaim := { program := "ythppionkcfkafaadoor", sum := "9c77060bc6e88a160bbcd09c3f12c7a14be18ee701cf8a946b79c45e43440c02", func := "loop.example/pub-sourcepieces/laws.FnLevels", spec := "fnLevels", recurses := true, named := ["loop.example/pub-sourcepieces/pub/jsonnet/inner/ast.bopPrecedence"], maps := true, loops := true, apart := false, laid := [("loop.example/pub-sourcepieces/pub/jsonnet/inner/ast.bopPrecedence", laid_loop_example_pub_sourcepieces_pub_jsonnet_inner_ast_bopPrecedence)], narrowed := true }
def FnLevelsUptoSaid : Prop := fnLevelsUptoRow.holds Tryd.pinned (OpenSpec.upto fnLevelsSpec)

/-- 'laws.FnLines', WHERE WHAT IT READS IS OF BULK AT MOST 1048576: true; the input reads as it did. -/
def fnLinesUptoRow : OpenClaim := { program := "ythppionkcfkafaadoor", sum := "9c77060bc6e88a160bbcd09c3f12c7a14be18ee701cf8a946b79c45e43440c02", func := "loop.example/pub-sourcepieces/laws.FnLines", spec := "fnLines", named := ["bytes.ErrTooLarge"], apart := false, laid := [("bytes.ErrTooLarge", laid_bytes_ErrTooLarge)], narrowed := true }
def FnLinesUptoSaid : Prop := fnLinesUptoRow.holds Tryd.pinned (OpenSpec.upto fnLinesSpec)

/-- 'laws.FnLineBehind', WHERE WHAT IT READS IS OF BULK AT MOST 1048576: true; the input reads as it did. -/
def fnLineBehindUptoRow : OpenClaim := { program := "ythppionkcfkafaadoor", sum := "9c77060bc6e88a160bbcd09c3f12c7a14be18ee701cf8a946b79c45e43440c02", func := "loop.example/pub-sourcepieces/laws.FnLineBehind", spec := "fnLineBehind", named := ["bytes.ErrTooLarge"], apart := false, laid := [("bytes.ErrTooLarge", laid_bytes_ErrTooLarge)], narrowed := true }
def FnLineBehindUptoSaid : Prop := fnLineBehindUptoRow.holds Tryd.pinned (OpenSpec.upto fnLineBehindSpec)

end Rows
end Go.Proofs.YthppionkcfkafaaDoor
