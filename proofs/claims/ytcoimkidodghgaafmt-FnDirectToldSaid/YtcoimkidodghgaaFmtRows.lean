/-
  NARROWER THAN 'FOR EVERY INPUT', by the rows' own cells (each row's printed sentence says how): FnDropPluses: loops · FnDirect: loops · FnClone: loops · FnChildren: loops · FnDropBrackets: loops.
  DERIVED. THE GIVEN ROWS OF THIS SEAT. 5 by the template 'for every input the law returns true; each argument reads behind the call as it read before'; 0 by the template 'total and deterministic' (their statements: YtcoimkidodghgaaFmtTotals.lean).
  GIVEN WITH THE SEED: the statements are not yours to turn. If you find one false, say at which input.
  Laid BY PROGRAM, IN A SANDBOX (cutbox-rows.mjs): the forced cells as the released guide's own fill.sh prints them over the translation d9a1bf88b5248825… (all of the seat's roots in one cut). By AI agents, Wed Nov 11 2026. No macro, syntax, notation, axiom, sorry.
-/
import Derived.Test.YtcoimkidodghgaaFmtChecked
import GoSem.Claim
import GoSem.ClaimJoined
import GoSem.ClaimMapViews
import Derived.JoinedTies
import Derived.KernelRfl
namespace Go.Proofs.YtcoimkidodghgaaFmt
/- THE CELL 'sum', in the pinned program and in every row, IS THE sha256 OF THE DUMP (.gsa) THAT YtcoimkidodghgaaFmtProg.lean LOADS. Nothing in Lean hashes anything: it is a label: what it is worth is what the hold of that sum in a sandbox is worth. -/
noncomputable def Tryf.pinned : Pinned := { name := "ytcoimkidodghgaafmt", sum := "d9a1bf88b52488254e1f9f446f219d6e78c1770b3ffd1415be2c817180be95d3", checked := Tryf.checked }
namespace Rows
def none {H : Type} : Left H := { results := [], args := [] }

/-- 'laws.FnDropPluses': WHATEVER THE INPUT: true; the input reads as it did. -/
def fnDropPlusesSpec : ChangeSpec := { name := "fnDropPluses", fn := fun _ => fun
  | [d] => { results := [.lit (.bool true)], args := [d] }
  | _ => none }
def fnDropPlusesRow : OpenClaim := { program := "ytcoimkidodghgaafmt", sum := "d9a1bf88b52488254e1f9f446f219d6e78c1770b3ffd1415be2c817180be95d3", func := "loop.example/pub-sourcepieces/laws.FnDropPluses", spec := "fnDropPluses", stops := ["fmt.Sprintf, its operands' methods called"], unfollowed := true, recurses := true, loops := true, apart := false }
/-- NO THEOREM (fmt's text is open here; it may be false): for the released tool's asking of the row's closed facts alone. THE STATEMENT IS 'FnDropPlusesToldSaid' (YtcoimkidodghgaaFmtCards.lean). -/
def FnDropPlusesFormAsk : Prop := fnDropPlusesRow.holds Tryf.pinned (OpenSpec.ofChange fnDropPlusesSpec)

/-- ITS FALSE NEIGHBOUR: 'it returns false'. Refute it at one input. -/
def fnDropPlusesWrong : ChangeSpec := { name := "fnDropPluses", fn := fun _ => fun
  | [d] => { results := [.lit (.bool false)], args := [d] }
  | _ => none }
def FnDropPlusesWrongFormAsk : Prop := fnDropPlusesRow.holds Tryf.pinned (OpenSpec.ofChange fnDropPlusesWrong)

/-- 'laws.FnDirect': WHATEVER THE INPUT: true; the input reads as it did. -/
def fnDirectSpec : ChangeSpec := { name := "fnDirect", fn := fun _ => fun
  | [d] => { results := [.lit (.bool true)], args := [d] }
  | _ => none }
def fnDirectRow : OpenClaim := { program := "ytcoimkidodghgaafmt", sum := "d9a1bf88b52488254e1f9f446f219d6e78c1770b3ffd1415be2c817180be95d3", func := "loop.example/pub-sourcepieces/laws.FnDirect", spec := "fnDirect", stops := ["fmt.Sprintf, its operands' methods called"], inPlace := ["fmt.Sprintf"], unfollowed := true, recurses := true, loops := true, apart := false }
/-- NO THEOREM (fmt's text is open here; it may be false): for the released tool's asking of the row's closed facts alone. THE STATEMENT IS 'FnDirectToldSaid' (YtcoimkidodghgaaFmtCards.lean). -/
def FnDirectFormAsk : Prop := fnDirectRow.holds Tryf.pinned (OpenSpec.ofChange fnDirectSpec)

/-- ITS FALSE NEIGHBOUR: 'it returns false'. Refute it at one input. -/
def fnDirectWrong : ChangeSpec := { name := "fnDirect", fn := fun _ => fun
  | [d] => { results := [.lit (.bool false)], args := [d] }
  | _ => none }
def FnDirectWrongFormAsk : Prop := fnDirectRow.holds Tryf.pinned (OpenSpec.ofChange fnDirectWrong)

/-- 'laws.FnClone': WHATEVER THE INPUT: true; the input reads as it did. -/
def fnCloneSpec : ChangeSpec := { name := "fnClone", fn := fun _ => fun
  | [d] => { results := [.lit (.bool true)], args := [d] }
  | _ => none }
def fnCloneRow : OpenClaim := { program := "ytcoimkidodghgaafmt", sum := "d9a1bf88b52488254e1f9f446f219d6e78c1770b3ffd1415be2c817180be95d3", func := "loop.example/pub-sourcepieces/laws.FnClone", spec := "fnClone", stops := ["fmt.Sprintf, its operands' methods called"], inPlace := ["fmt.Sprintf"], unfollowed := true, recurses := true, loops := true, apart := false }
/-- NO THEOREM (fmt's text is open here; it may be false): for the released tool's asking of the row's closed facts alone. THE STATEMENT IS 'FnCloneToldSaid' (YtcoimkidodghgaaFmtCards.lean). -/
def FnCloneFormAsk : Prop := fnCloneRow.holds Tryf.pinned (OpenSpec.ofChange fnCloneSpec)

/-- ITS FALSE NEIGHBOUR: 'it returns false'. Refute it at one input. -/
def fnCloneWrong : ChangeSpec := { name := "fnClone", fn := fun _ => fun
  | [d] => { results := [.lit (.bool false)], args := [d] }
  | _ => none }
def FnCloneWrongFormAsk : Prop := fnCloneRow.holds Tryf.pinned (OpenSpec.ofChange fnCloneWrong)

/-- 'laws.FnChildren': WHATEVER THE INPUT: true; the input reads as it did. -/
def fnChildrenSpec : ChangeSpec := { name := "fnChildren", fn := fun _ => fun
  | [d] => { results := [.lit (.bool true)], args := [d] }
  | _ => none }
def fnChildrenRow : OpenClaim := { program := "ytcoimkidodghgaafmt", sum := "d9a1bf88b52488254e1f9f446f219d6e78c1770b3ffd1415be2c817180be95d3", func := "loop.example/pub-sourcepieces/laws.FnChildren", spec := "fnChildren", stops := ["fmt.Sprintf, its operands' methods called"], inPlace := ["fmt.Sprintf"], unfollowed := true, recurses := true, loops := true, apart := false }
/-- NO THEOREM (fmt's text is open here; it may be false): for the released tool's asking of the row's closed facts alone. THE STATEMENT IS 'FnChildrenToldSaid' (YtcoimkidodghgaaFmtCards.lean). -/
def FnChildrenFormAsk : Prop := fnChildrenRow.holds Tryf.pinned (OpenSpec.ofChange fnChildrenSpec)

/-- ITS FALSE NEIGHBOUR: 'it returns false'. Refute it at one input. -/
def fnChildrenWrong : ChangeSpec := { name := "fnChildren", fn := fun _ => fun
  | [d] => { results := [.lit (.bool false)], args := [d] }
  | _ => none }
def FnChildrenWrongFormAsk : Prop := fnChildrenRow.holds Tryf.pinned (OpenSpec.ofChange fnChildrenWrong)

/-- 'laws.FnDropBrackets': WHATEVER THE INPUT: true; the input reads as it did. -/
def fnDropBracketsSpec : ChangeSpec := { name := "fnDropBrackets", fn := fun _ => fun
  | [d] => { results := [.lit (.bool true)], args := [d] }
  | _ => none }
def fnDropBracketsRow : OpenClaim := { program := "ytcoimkidodghgaafmt", sum := "d9a1bf88b52488254e1f9f446f219d6e78c1770b3ffd1415be2c817180be95d3", func := "loop.example/pub-sourcepieces/laws.FnDropBrackets", spec := "fnDropBrackets", stops := ["fmt.Sprintf, its operands' methods called"], unfollowed := true, recurses := true, loops := true, apart := false }
/-- NO THEOREM (fmt's text is open here; it may be false): for the released tool's asking of the row's closed facts alone. THE STATEMENT IS 'FnDropBracketsToldSaid' (YtcoimkidodghgaaFmtCards.lean). -/
def FnDropBracketsFormAsk : Prop := fnDropBracketsRow.holds Tryf.pinned (OpenSpec.ofChange fnDropBracketsSpec)

/-- ITS FALSE NEIGHBOUR: 'it returns false'. Refute it at one input. -/
def fnDropBracketsWrong : ChangeSpec := { name := "fnDropBrackets", fn := fun _ => fun
  | [d] => { results := [.lit (.bool false)], args := [d] }
  | _ => none }
def FnDropBracketsWrongFormAsk : Prop := fnDropBracketsRow.holds Tryf.pinned (OpenSpec.ofChange fnDropBracketsWrong)

end Rows
end Go.Proofs.YtcoimkidodghgaaFmt
