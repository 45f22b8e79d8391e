/-
  NARROWER THAN 'FOR EVERY INPUT', by the rows' own cells (each row's printed sentence says how): FnOpText: laid · FnSignText: laid.
  DERIVED. THE GIVEN ROWS OF THIS SEAT. 2 by the template 'for every input the law returns true; each argument reads behind the call as it read before'; 0 by the template 'total and deterministic' (their statements: YtbfigfpaphajgaaFmtTotals.lean).
  GIVEN WITH THE SEED: the statements are not yours to turn. If you find one false, say at which input.
  Laid BY PROGRAM, IN A SANDBOX (cutbox-rows.mjs): the forced cells as the released guide's own fill.sh prints them over the translation ecf2d7cb7b2adb11… (all of the seat's roots in one cut). By AI agents, Wed Nov 11 2026. No macro, syntax, notation, axiom, sorry.
-/
import Derived.Test.YtbfigfpaphajgaaFmtChecked
import GoSem.Claim
import GoSem.ClaimJoined
import GoSem.ClaimMapViews
import Derived.JoinedTies
import Derived.KernelRfl
namespace Go.Proofs.YtbfigfpaphajgaaFmt
/- THE CELL 'sum', in the pinned program and in every row, IS THE sha256 OF THE DUMP (.gsa) THAT YtbfigfpaphajgaaFmtProg.lean LOADS. Nothing in Lean hashes anything: it is a label: what it is worth is what the hold of that sum in a sandbox is worth. -/
noncomputable def Tryf.pinned : Pinned := { name := "ytbfigfpaphajgaafmt", sum := "ecf2d7cb7b2adb114ef674c78bf8dd6678b183bc118166839307ca6d872b4581", checked := Tryf.checked }
namespace Rows
def none {H : Type} : Left H := { results := [], args := [] }

/- WHAT THE LISTED PACKAGE-LEVEL VARIABLES READ AS WHEN THE CALL BEGINS. Each datum BY PROGRAM (the guide's laid-datum.mjs) off the statement by which the dump's own 'gosem.cut.vars' lays the variable. In a bare row this is a premise. The card (YtbfigfpaphajgaaFmtCards.lean) ties it to the program's text. -/
def laid_loop_example_pub_sourcepieces_pub_jsonnet_ast_bopStrings {H : Type} : DataW H := .slice [.lit (.string [42]), .lit (.string [47]), .lit (.string [37]), .lit (.string [43]), .lit (.string [45]), .lit (.string [60, 60]), .lit (.string [62, 62]), .lit (.string [62]), .lit (.string [62, 61]), .lit (.string [60]), .lit (.string [60, 61]), .lit (.string [105, 110]), .lit (.string [61, 61]), .lit (.string [33, 61]), .lit (.string [38]), .lit (.string [94]), .lit (.string [124]), .lit (.string [38, 38]), .lit (.string [124, 124])] []
def laid_loop_example_pub_sourcepieces_pub_jsonnet_ast_uopStrings {H : Type} : DataW H := .slice [.lit (.string [33]), .lit (.string [126]), .lit (.string [43]), .lit (.string [45])] []

/-- 'laws.FnOpText': WHATEVER THE INPUT: true; the input reads as it did. -/
def fnOpTextSpec : ChangeSpec := { name := "fnOpText", vars := ["loop.example/pub-sourcepieces/pub/jsonnet/ast.bopStrings"], fn := fun _ => fun
  | [d, g1] => { results := [.lit (.bool true)], args := [d], vars := [g1] }
  | _ => none }
def fnOpTextRow : OpenClaim := { program := "ytbfigfpaphajgaafmt", sum := "ecf2d7cb7b2adb114ef674c78bf8dd6678b183bc118166839307ca6d872b4581", func := "loop.example/pub-sourcepieces/laws.FnOpText", spec := "fnOpText", stops := ["fmt.Sprintf, its operands' methods called"], inPlace := ["fmt.Sprintf"], unfollowed := true, recurses := true, named := ["loop.example/pub-sourcepieces/pub/jsonnet/ast.bopStrings"], apart := false, laid := [("loop.example/pub-sourcepieces/pub/jsonnet/ast.bopStrings", laid_loop_example_pub_sourcepieces_pub_jsonnet_ast_bopStrings)] }
/-- NO THEOREM (fmt's text is open here; it may be false): for the released tool's asking of the row's closed facts alone. THE STATEMENT IS 'FnOpTextToldSaid' (YtbfigfpaphajgaaFmtCards.lean). -/
def FnOpTextFormAsk : Prop := fnOpTextRow.holds Tryf.pinned (OpenSpec.ofChange fnOpTextSpec)

/-- ITS FALSE NEIGHBOUR: 'it returns false'. Refute it at one input. -/
def fnOpTextWrong : ChangeSpec := { name := "fnOpText", vars := ["loop.example/pub-sourcepieces/pub/jsonnet/ast.bopStrings"], fn := fun _ => fun
  | [d, g1] => { results := [.lit (.bool false)], args := [d], vars := [g1] }
  | _ => none }
def FnOpTextWrongFormAsk : Prop := fnOpTextRow.holds Tryf.pinned (OpenSpec.ofChange fnOpTextWrong)

/-- 'laws.FnSignText': WHATEVER THE INPUT: true; the input reads as it did. -/
def fnSignTextSpec : ChangeSpec := { name := "fnSignText", vars := ["loop.example/pub-sourcepieces/pub/jsonnet/ast.uopStrings"], fn := fun _ => fun
  | [d, g1] => { results := [.lit (.bool true)], args := [d], vars := [g1] }
  | _ => none }
def fnSignTextRow : OpenClaim := { program := "ytbfigfpaphajgaafmt", sum := "ecf2d7cb7b2adb114ef674c78bf8dd6678b183bc118166839307ca6d872b4581", func := "loop.example/pub-sourcepieces/laws.FnSignText", spec := "fnSignText", stops := ["fmt.Sprintf, its operands' methods called"], inPlace := ["fmt.Sprintf"], unfollowed := true, recurses := true, named := ["loop.example/pub-sourcepieces/pub/jsonnet/ast.uopStrings"], apart := false, laid := [("loop.example/pub-sourcepieces/pub/jsonnet/ast.uopStrings", laid_loop_example_pub_sourcepieces_pub_jsonnet_ast_uopStrings)] }
/-- NO THEOREM (fmt's text is open here; it may be false): for the released tool's asking of the row's closed facts alone. THE STATEMENT IS 'FnSignTextToldSaid' (YtbfigfpaphajgaaFmtCards.lean). -/
def FnSignTextFormAsk : Prop := fnSignTextRow.holds Tryf.pinned (OpenSpec.ofChange fnSignTextSpec)

/-- ITS FALSE NEIGHBOUR: 'it returns false'. Refute it at one input. -/
def fnSignTextWrong : ChangeSpec := { name := "fnSignText", vars := ["loop.example/pub-sourcepieces/pub/jsonnet/ast.uopStrings"], fn := fun _ => fun
  | [d, g1] => { results := [.lit (.bool false)], args := [d], vars := [g1] }
  | _ => none }
def FnSignTextWrongFormAsk : Prop := fnSignTextRow.holds Tryf.pinned (OpenSpec.ofChange fnSignTextWrong)

end Rows
end Go.Proofs.YtbfigfpaphajgaaFmt
