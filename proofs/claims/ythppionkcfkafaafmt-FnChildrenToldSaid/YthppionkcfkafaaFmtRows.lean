/-
  NARROWER THAN 'FOR EVERY INPUT', by the rows' own cells (each row's printed sentence says how): FnClone: loops · FnChildren: loops.
  DERIVED. THE GIVEN ROWS OF THIS SEAT. 2 by the template 'for every input the law returns true; each argument reads behind the call as it read before'; 0 by the template 'total and deterministic' (their statements: YthppionkcfkafaaFmtTotals.lean).
  GIVEN WITH THE SEED: the statements are not yours to turn. If you find one false, say at which input.
  Laid BY PROGRAM, IN A SANDBOX (cutbox-rows.mjs): the forced cells as the released guide's own fill.sh prints them over the translation 473883b6ab646007… (all of the seat's roots in one cut). By AI agents, Wed Nov 11 2026. No macro, syntax, notation, axiom, sorry.
-/
import Derived.Test.YthppionkcfkafaaFmtChecked
import GoSem.Claim
import GoSem.ClaimJoined
import GoSem.ClaimMapViews
import Derived.JoinedTies
import Derived.KernelRfl
namespace Go.Proofs.YthppionkcfkafaaFmt
/- THE CELL 'sum', in the pinned program and in every row, IS THE sha256 OF THE DUMP (.gsa) THAT YthppionkcfkafaaFmtProg.lean LOADS. Nothing in Lean hashes anything: it is a label: what it is worth is what the hold of that sum in a sandbox is worth. -/
noncomputable def Tryf.pinned : Pinned := { name := "ythppionkcfkafaafmt", sum := "473883b6ab64600795b092b71a9c0036110bc756856e445945e9e3527ba2b95b", checked := Tryf.checked }
namespace Rows
def none {H : Type} : Left H := { results := [], args := [] }

/-- 'laws.FnClone': WHATEVER THE INPUT: true; the input reads as it did. -/
def fnCloneSpec : ChangeSpec := { name := "fnClone", fn := fun _ => fun
  | [d] => { results := [.lit (.bool true)], args := [d] }
  | _ => none }
def fnCloneRow : OpenClaim := { program := "ythppionkcfkafaafmt", sum := "473883b6ab64600795b092b71a9c0036110bc756856e445945e9e3527ba2b95b", func := "loop.example/pub-sourcepieces/laws.FnClone", spec := "fnClone", stops := ["fmt.Sprintf, its operands' methods called"], inPlace := ["fmt.Sprintf"], unfollowed := true, recurses := true, loops := true, apart := false }
/-- NO THEOREM (fmt's text is open here; it may be false): for the released tool's asking of the row's closed facts alone. THE STATEMENT IS 'FnCloneToldSaid' (YthppionkcfkafaaFmtCards.lean). -/
def FnCloneFormAsk : Prop := fnCloneRow.holds Tryf.pinned (OpenSpec.ofChange fnCloneSpec)

/-- ITS FALSE NEIGHBOUR: 'it returns false'. Refute it at one input. -/
def fnCloneWrong : ChangeSpec := { name := "fnClone", fn := fun _ => fun
  | [d] => { results := [.lit (.bool false)], args := [d] }
  | _ => none }
def FnCloneWrongFormAsk : Prop := fnCloneRow.holds Tryf.pinned (OpenSpec.ofChange fnCloneWrong)

/-- 'laws.FnChildren': WHATEVER THE INPUT: true; the input reads as it did. -/
def fnChildrenSpec : ChangeSpec := { name := "fnChildren", fn := fun _ => fun
  | [d] => { results := [.lit (.bool true)], args := [d] }
  | _ => none }
def fnChildrenRow : OpenClaim := { program := "ythppionkcfkafaafmt", sum := "473883b6ab64600795b092b71a9c0036110bc756856e445945e9e3527ba2b95b", func := "loop.example/pub-sourcepieces/laws.FnChildren", spec := "fnChildren", stops := ["fmt.Sprintf, its operands' methods called"], inPlace := ["fmt.Sprintf"], unfollowed := true, recurses := true, loops := true, apart := false }
/-- NO THEOREM (fmt's text is open here; it may be false): for the released tool's asking of the row's closed facts alone. THE STATEMENT IS 'FnChildrenToldSaid' (YthppionkcfkafaaFmtCards.lean). -/
def FnChildrenFormAsk : Prop := fnChildrenRow.holds Tryf.pinned (OpenSpec.ofChange fnChildrenSpec)

/-- ITS FALSE NEIGHBOUR: 'it returns false'. Refute it at one input. -/
def fnChildrenWrong : ChangeSpec := { name := "fnChildren", fn := fun _ => fun
  | [d] => { results := [.lit (.bool false)], args := [d] }
  | _ => none }
def FnChildrenWrongFormAsk : Prop := fnChildrenRow.holds Tryf.pinned (OpenSpec.ofChange fnChildrenWrong)

end Rows
end Go.Proofs.YthppionkcfkafaaFmt
