/-
  NARROWER THAN 'FOR EVERY INPUT', by the rows' own cells (each row's printed sentence says how): FnDropPluses: loops · FnDropBrackets: loops.
  DERIVED. THE GIVEN ROWS OF THIS SEAT. 2 by the template 'for every input the law returns true; each argument reads behind the call as it read before'; 0 by the template 'total and deterministic' (their statements: YthhcfkkmbjaeeaaFmtTotals.lean).
  GIVEN WITH THE SEED: the statements are not yours to turn. If you find one false, say at which input.
  Laid BY PROGRAM, IN A SANDBOX (cutbox-rows.mjs): the forced cells as the released guide's own fill.sh prints them over the translation 4cb9add1574a70fd… (all of the seat's roots in one cut). By AI agents, Wed Nov 11 2026. No macro, syntax, notation, axiom, sorry.
-/
import Derived.Test.YthhcfkkmbjaeeaaFmtChecked
import GoSem.Claim
import GoSem.ClaimJoined
import GoSem.ClaimMapViews
import Derived.JoinedTies
import Derived.KernelRfl
namespace Go.Proofs.YthhcfkkmbjaeeaaFmt
/- THE CELL 'sum', in the pinned program and in every row, IS THE sha256 OF THE DUMP (.gsa) THAT YthhcfkkmbjaeeaaFmtProg.lean LOADS. Nothing in Lean hashes anything: it is a label: what it is worth is what the hold of that sum in a sandbox is worth. -/
noncomputable def Tryf.pinned : Pinned := { name := "ythhcfkkmbjaeeaafmt", sum := "4cb9add1574a70fd9863835c015a0c584a7f1d1a9f0a0e113b1a3d39fdf1e731", checked := Tryf.checked }
namespace Rows
def none {H : Type} : Left H := { results := [], args := [] }

/-- 'laws.FnDropPluses': WHATEVER THE INPUT: true; the input reads as it did. -/
def fnDropPlusesSpec : ChangeSpec := { name := "fnDropPluses", fn := fun _ => fun
  | [d] => { results := [.lit (.bool true)], args := [d] }
  | _ => none }
def fnDropPlusesRow : OpenClaim := { program := "ythhcfkkmbjaeeaafmt", sum := "4cb9add1574a70fd9863835c015a0c584a7f1d1a9f0a0e113b1a3d39fdf1e731", func := "loop.example/pub-sourcepieces/laws.FnDropPluses", spec := "fnDropPluses", stops := ["fmt.Sprintf"], unfollowed := true, recurses := true, loops := true, apart := false }
/-- NO THEOREM (fmt's text is open here; it may be false): for the released tool's asking of the row's closed facts alone. THE STATEMENT IS 'FnDropPlusesToldSaid' (YthhcfkkmbjaeeaaFmtCards.lean). -/
def FnDropPlusesFormAsk : Prop := fnDropPlusesRow.holds Tryf.pinned (OpenSpec.ofChange fnDropPlusesSpec)

/-- ITS FALSE NEIGHBOUR: 'it returns false'. Refute it at one input. -/
def fnDropPlusesWrong : ChangeSpec := { name := "fnDropPluses", fn := fun _ => fun
  | [d] => { results := [.lit (.bool false)], args := [d] }
  | _ => none }
def FnDropPlusesWrongFormAsk : Prop := fnDropPlusesRow.holds Tryf.pinned (OpenSpec.ofChange fnDropPlusesWrong)

/-- 'laws.FnDropBrackets': WHATEVER THE INPUT: true; the input reads as it did. -/
def fnDropBracketsSpec : ChangeSpec := { name := "fnDropBrackets", fn := fun _ => fun
  | [d] => { results := [.lit (.bool true)], args := [d] }
  | _ => none }
def fnDropBracketsRow : OpenClaim := { program := "ythhcfkkmbjaeeaafmt", sum := "4cb9add1574a70fd9863835c015a0c584a7f1d1a9f0a0e113b1a3d39fdf1e731", func := "loop.example/pub-sourcepieces/laws.FnDropBrackets", spec := "fnDropBrackets", stops := ["fmt.Sprintf"], unfollowed := true, recurses := true, loops := true, apart := false }
/-- NO THEOREM (fmt's text is open here; it may be false): for the released tool's asking of the row's closed facts alone. THE STATEMENT IS 'FnDropBracketsToldSaid' (YthhcfkkmbjaeeaaFmtCards.lean). -/
def FnDropBracketsFormAsk : Prop := fnDropBracketsRow.holds Tryf.pinned (OpenSpec.ofChange fnDropBracketsSpec)

/-- ITS FALSE NEIGHBOUR: 'it returns false'. Refute it at one input. -/
def fnDropBracketsWrong : ChangeSpec := { name := "fnDropBrackets", fn := fun _ => fun
  | [d] => { results := [.lit (.bool false)], args := [d] }
  | _ => none }
def FnDropBracketsWrongFormAsk : Prop := fnDropBracketsRow.holds Tryf.pinned (OpenSpec.ofChange fnDropBracketsWrong)

end Rows
end Go.Proofs.YthhcfkkmbjaeeaaFmt
