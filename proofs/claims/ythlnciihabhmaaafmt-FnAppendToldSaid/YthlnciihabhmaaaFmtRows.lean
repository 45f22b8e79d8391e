/-
  No cell of these rows narrows 'for every input' (looked for: loops, veiled, ifaces, maps, wideKeys, modest, calm, conditions, laid).
  DERIVED. THE GIVEN ROWS OF THIS SEAT. 9 by the template 'for every input the law returns true; each argument reads behind the call as it read before'; 0 by the template 'total and deterministic' (their statements: YthlnciihabhmaaaFmtTotals.lean).
  GIVEN WITH THE SEED: the statements are not yours to turn. If you find one false, say at which input.
  Laid BY PROGRAM, IN A SANDBOX (cutbox-rows.mjs): the forced cells as the released guide's own fill.sh prints them over the translation a907b3b8eb9ee294… (all of the seat's roots in one cut). By AI agents, Wed Nov 11 2026. No macro, syntax, notation, axiom, sorry.
-/
import Derived.Test.YthlnciihabhmaaaFmtChecked
import GoSem.Claim
import GoSem.ClaimJoined
import GoSem.ClaimMapViews
import Derived.JoinedTies
import Derived.KernelRfl
namespace Go.Proofs.YthlnciihabhmaaaFmt
/- THE CELL 'sum', in the pinned program and in every row, IS THE sha256 OF THE DUMP (.gsa) THAT YthlnciihabhmaaaFmtProg.lean LOADS. Nothing in Lean hashes anything: it is a label: what it is worth is what the hold of that sum in a sandbox is worth. -/
noncomputable def Tryf.pinned : Pinned := { name := "ythlnciihabhmaaafmt", sum := "a907b3b8eb9ee2949fe53e924f1d5b2bb73860ba770b1b378dfbe2745a332428", checked := Tryf.checked }
namespace Rows
def none {H : Type} : Left H := { results := [], args := [] }

/-- 'laws.FnPieceNewlines': WHATEVER THE INPUT: true; the input reads as it did. -/
def fnPieceNewlinesSpec : ChangeSpec := { name := "fnPieceNewlines", fn := fun _ => fun
  | [d] => { results := [.lit (.bool true)], args := [d] }
  | _ => none }
def fnPieceNewlinesRow : OpenClaim := { program := "ythlnciihabhmaaafmt", sum := "a907b3b8eb9ee2949fe53e924f1d5b2bb73860ba770b1b378dfbe2745a332428", func := "loop.example/pub-sourcepieces/laws.FnPieceNewlines", spec := "fnPieceNewlines", stops := ["fmt.Sprintf"], inPlace := ["fmt.Sprintf"], apart := false }
/-- NO THEOREM (fmt's text is open here; it may be false): for the released tool's asking of the row's closed facts alone. THE STATEMENT IS 'FnPieceNewlinesToldSaid' (YthlnciihabhmaaaFmtCards.lean). -/
def FnPieceNewlinesFormAsk : Prop := fnPieceNewlinesRow.holds Tryf.pinned (OpenSpec.ofChange fnPieceNewlinesSpec)

/-- ITS FALSE NEIGHBOUR: 'it returns false'. Refute it at one input. -/
def fnPieceNewlinesWrong : ChangeSpec := { name := "fnPieceNewlines", fn := fun _ => fun
  | [d] => { results := [.lit (.bool false)], args := [d] }
  | _ => none }
def FnPieceNewlinesWrongFormAsk : Prop := fnPieceNewlinesRow.holds Tryf.pinned (OpenSpec.ofChange fnPieceNewlinesWrong)

/-- 'laws.FnMakePiece': WHATEVER THE INPUT: true; the input reads as it did. -/
def fnMakePieceSpec : ChangeSpec := { name := "fnMakePiece", fn := fun _ => fun
  | [d1, d2, d3, d4] => { results := [.lit (.bool true)], args := [d1, d2, d3, d4] }
  | _ => none }
def fnMakePieceRow : OpenClaim := { program := "ythlnciihabhmaaafmt", sum := "a907b3b8eb9ee2949fe53e924f1d5b2bb73860ba770b1b378dfbe2745a332428", func := "loop.example/pub-sourcepieces/laws.FnMakePiece", spec := "fnMakePiece", stops := ["fmt.Sprintf"], inPlace := ["fmt.Sprintf"], apart := false }
/-- NO THEOREM (fmt's text is open here; it may be false): for the released tool's asking of the row's closed facts alone. THE STATEMENT IS 'FnMakePieceToldSaid' (YthlnciihabhmaaaFmtCards.lean). -/
def FnMakePieceFormAsk : Prop := fnMakePieceRow.holds Tryf.pinned (OpenSpec.ofChange fnMakePieceSpec)

/-- ITS FALSE NEIGHBOUR: 'it returns false'. Refute it at one input. -/
def fnMakePieceWrong : ChangeSpec := { name := "fnMakePiece", fn := fun _ => fun
  | [d1, d2, d3, d4] => { results := [.lit (.bool false)], args := [d1, d2, d3, d4] }
  | _ => none }
def FnMakePieceWrongFormAsk : Prop := fnMakePieceRow.holds Tryf.pinned (OpenSpec.ofChange fnMakePieceWrong)

/-- 'laws.FnNewlines': WHATEVER THE INPUT: true; the input reads as it did. -/
def fnNewlinesSpec : ChangeSpec := { name := "fnNewlines", fn := fun _ => fun
  | [d] => { results := [.lit (.bool true)], args := [d] }
  | _ => none }
def fnNewlinesRow : OpenClaim := { program := "ythlnciihabhmaaafmt", sum := "a907b3b8eb9ee2949fe53e924f1d5b2bb73860ba770b1b378dfbe2745a332428", func := "loop.example/pub-sourcepieces/laws.FnNewlines", spec := "fnNewlines", stops := ["fmt.Sprintf"], inPlace := ["fmt.Sprintf"], apart := false }
/-- NO THEOREM (fmt's text is open here; it may be false): for the released tool's asking of the row's closed facts alone. THE STATEMENT IS 'FnNewlinesToldSaid' (YthlnciihabhmaaaFmtCards.lean). -/
def FnNewlinesFormAsk : Prop := fnNewlinesRow.holds Tryf.pinned (OpenSpec.ofChange fnNewlinesSpec)

/-- ITS FALSE NEIGHBOUR: 'it returns false'. Refute it at one input. -/
def fnNewlinesWrong : ChangeSpec := { name := "fnNewlines", fn := fun _ => fun
  | [d] => { results := [.lit (.bool false)], args := [d] }
  | _ => none }
def FnNewlinesWrongFormAsk : Prop := fnNewlinesRow.holds Tryf.pinned (OpenSpec.ofChange fnNewlinesWrong)

/-- 'laws.FnAppend': WHATEVER THE INPUT: true; the input reads as it did. -/
def fnAppendSpec : ChangeSpec := { name := "fnAppend", fn := fun _ => fun
  | [d1, d2] => { results := [.lit (.bool true)], args := [d1, d2] }
  | _ => none }
def fnAppendRow : OpenClaim := { program := "ythlnciihabhmaaafmt", sum := "a907b3b8eb9ee2949fe53e924f1d5b2bb73860ba770b1b378dfbe2745a332428", func := "loop.example/pub-sourcepieces/laws.FnAppend", spec := "fnAppend", stops := ["fmt.Sprintf"], inPlace := ["fmt.Sprintf"], apart := false }
/-- NO THEOREM (fmt's text is open here; it may be false): for the released tool's asking of the row's closed facts alone. THE STATEMENT IS 'FnAppendToldSaid' (YthlnciihabhmaaaFmtCards.lean). -/
def FnAppendFormAsk : Prop := fnAppendRow.holds Tryf.pinned (OpenSpec.ofChange fnAppendSpec)

/-- ITS FALSE NEIGHBOUR: 'it returns false'. Refute it at one input. -/
def fnAppendWrong : ChangeSpec := { name := "fnAppend", fn := fun _ => fun
  | [d1, d2] => { results := [.lit (.bool false)], args := [d1, d2] }
  | _ => none }
def FnAppendWrongFormAsk : Prop := fnAppendRow.holds Tryf.pinned (OpenSpec.ofChange fnAppendWrong)

/-- 'laws.FnAppendKeeps': WHATEVER THE INPUT: true; the input reads as it did. -/
def fnAppendKeepsSpec : ChangeSpec := { name := "fnAppendKeeps", fn := fun _ => fun
  | [d1, d2] => { results := [.lit (.bool true)], args := [d1, d2] }
  | _ => none }
def fnAppendKeepsRow : OpenClaim := { program := "ythlnciihabhmaaafmt", sum := "a907b3b8eb9ee2949fe53e924f1d5b2bb73860ba770b1b378dfbe2745a332428", func := "loop.example/pub-sourcepieces/laws.FnAppendKeeps", spec := "fnAppendKeeps", stops := ["fmt.Sprintf"], inPlace := ["fmt.Sprintf"], apart := false }
/-- NO THEOREM (fmt's text is open here; it may be false): for the released tool's asking of the row's closed facts alone. THE STATEMENT IS 'FnAppendKeepsToldSaid' (YthlnciihabhmaaaFmtCards.lean). -/
def FnAppendKeepsFormAsk : Prop := fnAppendKeepsRow.holds Tryf.pinned (OpenSpec.ofChange fnAppendKeepsSpec)

/-- ITS FALSE NEIGHBOUR: 'it returns false'. Refute it at one input. -/
def fnAppendKeepsWrong : ChangeSpec := { name := "fnAppendKeeps", fn := fun _ => fun
  | [d1, d2] => { results := [.lit (.bool false)], args := [d1, d2] }
  | _ => none }
def FnAppendKeepsWrongFormAsk : Prop := fnAppendKeepsRow.holds Tryf.pinned (OpenSpec.ofChange fnAppendKeepsWrong)

/-- 'laws.FnCleanEnd': WHATEVER THE INPUT: true; the input reads as it did. -/
def fnCleanEndSpec : ChangeSpec := { name := "fnCleanEnd", fn := fun _ => fun
  | [d] => { results := [.lit (.bool true)], args := [d] }
  | _ => none }
def fnCleanEndRow : OpenClaim := { program := "ythlnciihabhmaaafmt", sum := "a907b3b8eb9ee2949fe53e924f1d5b2bb73860ba770b1b378dfbe2745a332428", func := "loop.example/pub-sourcepieces/laws.FnCleanEnd", spec := "fnCleanEnd", stops := ["fmt.Sprintf"], inPlace := ["fmt.Sprintf"], apart := false }
/-- NO THEOREM (fmt's text is open here; it may be false): for the released tool's asking of the row's closed facts alone. THE STATEMENT IS 'FnCleanEndToldSaid' (YthlnciihabhmaaaFmtCards.lean). -/
def FnCleanEndFormAsk : Prop := fnCleanEndRow.holds Tryf.pinned (OpenSpec.ofChange fnCleanEndSpec)

/-- ITS FALSE NEIGHBOUR: 'it returns false'. Refute it at one input. -/
def fnCleanEndWrong : ChangeSpec := { name := "fnCleanEnd", fn := fun _ => fun
  | [d] => { results := [.lit (.bool false)], args := [d] }
  | _ => none }
def FnCleanEndWrongFormAsk : Prop := fnCleanEndRow.holds Tryf.pinned (OpenSpec.ofChange fnCleanEndWrong)

/-- 'laws.FnJoin': WHATEVER THE INPUT: true; the input reads as it did. -/
def fnJoinSpec : ChangeSpec := { name := "fnJoin", fn := fun _ => fun
  | [d1, d2] => { results := [.lit (.bool true)], args := [d1, d2] }
  | _ => none }
def fnJoinRow : OpenClaim := { program := "ythlnciihabhmaaafmt", sum := "a907b3b8eb9ee2949fe53e924f1d5b2bb73860ba770b1b378dfbe2745a332428", func := "loop.example/pub-sourcepieces/laws.FnJoin", spec := "fnJoin", stops := ["fmt.Sprintf"], inPlace := ["fmt.Sprintf"], apart := false }
/-- NO THEOREM (fmt's text is open here; it may be false): for the released tool's asking of the row's closed facts alone. THE STATEMENT IS 'FnJoinToldSaid' (YthlnciihabhmaaaFmtCards.lean). -/
def FnJoinFormAsk : Prop := fnJoinRow.holds Tryf.pinned (OpenSpec.ofChange fnJoinSpec)

/-- ITS FALSE NEIGHBOUR: 'it returns false'. Refute it at one input. -/
def fnJoinWrong : ChangeSpec := { name := "fnJoin", fn := fun _ => fun
  | [d1, d2] => { results := [.lit (.bool false)], args := [d1, d2] }
  | _ => none }
def FnJoinWrongFormAsk : Prop := fnJoinRow.holds Tryf.pinned (OpenSpec.ofChange fnJoinWrong)

/-- 'laws.FnJoinKeeps': WHATEVER THE INPUT: true; the input reads as it did. -/
def fnJoinKeepsSpec : ChangeSpec := { name := "fnJoinKeeps", fn := fun _ => fun
  | [d1, d2] => { results := [.lit (.bool true)], args := [d1, d2] }
  | _ => none }
def fnJoinKeepsRow : OpenClaim := { program := "ythlnciihabhmaaafmt", sum := "a907b3b8eb9ee2949fe53e924f1d5b2bb73860ba770b1b378dfbe2745a332428", func := "loop.example/pub-sourcepieces/laws.FnJoinKeeps", spec := "fnJoinKeeps", stops := ["fmt.Sprintf"], inPlace := ["fmt.Sprintf"], apart := false }
/-- NO THEOREM (fmt's text is open here; it may be false): for the released tool's asking of the row's closed facts alone. THE STATEMENT IS 'FnJoinKeepsToldSaid' (YthlnciihabhmaaaFmtCards.lean). -/
def FnJoinKeepsFormAsk : Prop := fnJoinKeepsRow.holds Tryf.pinned (OpenSpec.ofChange fnJoinKeepsSpec)

/-- ITS FALSE NEIGHBOUR: 'it returns false'. Refute it at one input. -/
def fnJoinKeepsWrong : ChangeSpec := { name := "fnJoinKeeps", fn := fun _ => fun
  | [d1, d2] => { results := [.lit (.bool false)], args := [d1, d2] }
  | _ => none }
def FnJoinKeepsWrongFormAsk : Prop := fnJoinKeepsRow.holds Tryf.pinned (OpenSpec.ofChange fnJoinKeepsWrong)

/-- 'laws.FnMoveFront': WHATEVER THE INPUT: true; the input reads as it did. -/
def fnMoveFrontSpec : ChangeSpec := { name := "fnMoveFront", fn := fun _ => fun
  | [d1, d2] => { results := [.lit (.bool true)], args := [d1, d2] }
  | _ => none }
def fnMoveFrontRow : OpenClaim := { program := "ythlnciihabhmaaafmt", sum := "a907b3b8eb9ee2949fe53e924f1d5b2bb73860ba770b1b378dfbe2745a332428", func := "loop.example/pub-sourcepieces/laws.FnMoveFront", spec := "fnMoveFront", stops := ["fmt.Sprintf"], inPlace := ["fmt.Sprintf"], apart := false }
/-- NO THEOREM (fmt's text is open here; it may be false): for the released tool's asking of the row's closed facts alone. THE STATEMENT IS 'FnMoveFrontToldSaid' (YthlnciihabhmaaaFmtCards.lean). -/
def FnMoveFrontFormAsk : Prop := fnMoveFrontRow.holds Tryf.pinned (OpenSpec.ofChange fnMoveFrontSpec)

/-- ITS FALSE NEIGHBOUR: 'it returns false'. Refute it at one input. -/
def fnMoveFrontWrong : ChangeSpec := { name := "fnMoveFront", fn := fun _ => fun
  | [d1, d2] => { results := [.lit (.bool false)], args := [d1, d2] }
  | _ => none }
def FnMoveFrontWrongFormAsk : Prop := fnMoveFrontRow.holds Tryf.pinned (OpenSpec.ofChange fnMoveFrontWrong)

end Rows
end Go.Proofs.YthlnciihabhmaaaFmt
