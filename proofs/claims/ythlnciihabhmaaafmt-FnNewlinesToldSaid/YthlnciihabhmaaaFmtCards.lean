/-
  DERIVED. GIVEN WITH THE SEED: THE CARDS: each row of YthlnciihabhmaaaFmtRows.lean that lists a variable, with what it lists TIED to the program's text (the seventh form; the later family's looks); each row that meets fmt, with fmt's text TOLD by the authors' own Lean function (tested against real Go, not proved from fmt's source: count such statements apart). THE CARD IS WHAT COUNTS. Prove the row's statement (the work); the ties are given (YthlnciihabhmaaaFmtTie.lean); close each card by the builder's one call (the guide's Derived/Test/ToyasCard.lean, 'card_holds'). Laid BY PROGRAM, IN A SANDBOX (cutbox-door.mjs). By AI agents, Wed Nov 11 2026. No macro, syntax, notation, axiom, sorry.
-/
import Derived.Test.YthlnciihabhmaaaFmtRows
import GoSem.ClaimSeven
namespace Go.Proofs.YthlnciihabhmaaaFmt
namespace Rows

/-- THE TOLD CARD OF 'laws.FnPieceNewlines'. -/
def fnPieceNewlinesCard : Claim7 := { stood := { row := fnPieceNewlinesRow, standIns := [], harness := (true, "b39854064b043a2701c110bf15430dfb4f26a1082256ae3e4bec88fcc059e034"), looks := false }, told := true, goes := false }
def FnPieceNewlinesToldSaid : Prop := Claim7.holds Tryf.pinned (.plain (OpenSpec.ofChange fnPieceNewlinesSpec)) fnPieceNewlinesCard
/-- ITS FALSE NEIGHBOUR. Refute it at one input. -/
def FnPieceNewlinesToldWrongFalsely : Prop := Claim7.holds Tryf.pinned (.plain (OpenSpec.ofChange fnPieceNewlinesWrong)) fnPieceNewlinesCard

/-- THE TOLD CARD OF 'laws.FnMakePiece'. -/
def fnMakePieceCard : Claim7 := { stood := { row := fnMakePieceRow, standIns := [], harness := (true, "b39854064b043a2701c110bf15430dfb4f26a1082256ae3e4bec88fcc059e034"), looks := false }, told := true, goes := false }
def FnMakePieceToldSaid : Prop := Claim7.holds Tryf.pinned (.plain (OpenSpec.ofChange fnMakePieceSpec)) fnMakePieceCard
/-- ITS FALSE NEIGHBOUR. Refute it at one input. -/
def FnMakePieceToldWrongFalsely : Prop := Claim7.holds Tryf.pinned (.plain (OpenSpec.ofChange fnMakePieceWrong)) fnMakePieceCard

/-- THE TOLD CARD OF 'laws.FnNewlines'. -/
def fnNewlinesCard : Claim7 := { stood := { row := fnNewlinesRow, standIns := [], harness := (true, "b39854064b043a2701c110bf15430dfb4f26a1082256ae3e4bec88fcc059e034"), looks := false }, told := true, goes := false }
def FnNewlinesToldSaid : Prop := Claim7.holds Tryf.pinned (.plain (OpenSpec.ofChange fnNewlinesSpec)) fnNewlinesCard
/-- ITS FALSE NEIGHBOUR. Refute it at one input. -/
def FnNewlinesToldWrongFalsely : Prop := Claim7.holds Tryf.pinned (.plain (OpenSpec.ofChange fnNewlinesWrong)) fnNewlinesCard

/-- THE TOLD CARD OF 'laws.FnAppend'. -/
def fnAppendCard : Claim7 := { stood := { row := fnAppendRow, standIns := [], harness := (true, "b39854064b043a2701c110bf15430dfb4f26a1082256ae3e4bec88fcc059e034"), looks := false }, told := true, goes := false }
def FnAppendToldSaid : Prop := Claim7.holds Tryf.pinned (.plain (OpenSpec.ofChange fnAppendSpec)) fnAppendCard
/-- ITS FALSE NEIGHBOUR. Refute it at one input. -/
def FnAppendToldWrongFalsely : Prop := Claim7.holds Tryf.pinned (.plain (OpenSpec.ofChange fnAppendWrong)) fnAppendCard

/-- THE TOLD CARD OF 'laws.FnAppendKeeps'. -/
def fnAppendKeepsCard : Claim7 := { stood := { row := fnAppendKeepsRow, standIns := [], harness := (true, "b39854064b043a2701c110bf15430dfb4f26a1082256ae3e4bec88fcc059e034"), looks := false }, told := true, goes := false }
def FnAppendKeepsToldSaid : Prop := Claim7.holds Tryf.pinned (.plain (OpenSpec.ofChange fnAppendKeepsSpec)) fnAppendKeepsCard
/-- ITS FALSE NEIGHBOUR. Refute it at one input. -/
def FnAppendKeepsToldWrongFalsely : Prop := Claim7.holds Tryf.pinned (.plain (OpenSpec.ofChange fnAppendKeepsWrong)) fnAppendKeepsCard

/-- THE TOLD CARD OF 'laws.FnCleanEnd'. -/
def fnCleanEndCard : Claim7 := { stood := { row := fnCleanEndRow, standIns := [], harness := (true, "b39854064b043a2701c110bf15430dfb4f26a1082256ae3e4bec88fcc059e034"), looks := false }, told := true, goes := false }
def FnCleanEndToldSaid : Prop := Claim7.holds Tryf.pinned (.plain (OpenSpec.ofChange fnCleanEndSpec)) fnCleanEndCard
/-- ITS FALSE NEIGHBOUR. Refute it at one input. -/
def FnCleanEndToldWrongFalsely : Prop := Claim7.holds Tryf.pinned (.plain (OpenSpec.ofChange fnCleanEndWrong)) fnCleanEndCard

/-- THE TOLD CARD OF 'laws.FnJoin'. -/
def fnJoinCard : Claim7 := { stood := { row := fnJoinRow, standIns := [], harness := (true, "b39854064b043a2701c110bf15430dfb4f26a1082256ae3e4bec88fcc059e034"), looks := false }, told := true, goes := false }
def FnJoinToldSaid : Prop := Claim7.holds Tryf.pinned (.plain (OpenSpec.ofChange fnJoinSpec)) fnJoinCard
/-- ITS FALSE NEIGHBOUR. Refute it at one input. -/
def FnJoinToldWrongFalsely : Prop := Claim7.holds Tryf.pinned (.plain (OpenSpec.ofChange fnJoinWrong)) fnJoinCard

/-- THE TOLD CARD OF 'laws.FnJoinKeeps'. -/
def fnJoinKeepsCard : Claim7 := { stood := { row := fnJoinKeepsRow, standIns := [], harness := (true, "b39854064b043a2701c110bf15430dfb4f26a1082256ae3e4bec88fcc059e034"), looks := false }, told := true, goes := false }
def FnJoinKeepsToldSaid : Prop := Claim7.holds Tryf.pinned (.plain (OpenSpec.ofChange fnJoinKeepsSpec)) fnJoinKeepsCard
/-- ITS FALSE NEIGHBOUR. Refute it at one input. -/
def FnJoinKeepsToldWrongFalsely : Prop := Claim7.holds Tryf.pinned (.plain (OpenSpec.ofChange fnJoinKeepsWrong)) fnJoinKeepsCard

/-- THE TOLD CARD OF 'laws.FnMoveFront'. -/
def fnMoveFrontCard : Claim7 := { stood := { row := fnMoveFrontRow, standIns := [], harness := (true, "b39854064b043a2701c110bf15430dfb4f26a1082256ae3e4bec88fcc059e034"), looks := false }, told := true, goes := false }
def FnMoveFrontToldSaid : Prop := Claim7.holds Tryf.pinned (.plain (OpenSpec.ofChange fnMoveFrontSpec)) fnMoveFrontCard
/-- ITS FALSE NEIGHBOUR. Refute it at one input. -/
def FnMoveFrontToldWrongFalsely : Prop := Claim7.holds Tryf.pinned (.plain (OpenSpec.ofChange fnMoveFrontWrong)) fnMoveFrontCard
end Rows
end Go.Proofs.YthlnciihabhmaaaFmt
