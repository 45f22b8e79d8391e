/-
  DERIVED. GIVEN WITH THE SEED: THE CARDS: each row of YtcoimkidodghgaaFmtRows.lean that lists a variable, with what it lists TIED to the program's text (the seventh form; the later family's looks); each row that meets fmt, with fmt's text TOLD by the authors' own Lean function (tested against real Go, not proved from fmt's source: count such statements apart). THE CARD IS WHAT COUNTS. Prove the row's statement (the work); the ties are given (YtcoimkidodghgaaFmtTie.lean); close each card by the builder's one call (the guide's Derived/Test/ToyasCard.lean, 'card_holds'). Laid BY PROGRAM, IN A SANDBOX (cutbox-door.mjs). By AI agents, Wed Nov 11 2026. No macro, syntax, notation, axiom, sorry.
-/
import Derived.Test.YtcoimkidodghgaaFmtRows
import GoSem.ClaimSeven
namespace Go.Proofs.YtcoimkidodghgaaFmt
namespace Rows

/-- THE TOLD CARD OF 'laws.FnDropPluses'. -/
def fnDropPlusesCard : Claim7 := { stood := { row := fnDropPlusesRow, standIns := [], harness := (true, "3e70c41b23fd9b85ad880f2f1b7763c64cacab6fc76df0d013fd83bdef2678a7"), looks := true }, told := true, goes := false }
def FnDropPlusesToldSaid : Prop := Claim7.holds Tryf.pinned (.plain (OpenSpec.ofChange fnDropPlusesSpec)) fnDropPlusesCard
/-- ITS FALSE NEIGHBOUR. Refute it at one input. -/
def FnDropPlusesToldWrongFalsely : Prop := Claim7.holds Tryf.pinned (.plain (OpenSpec.ofChange fnDropPlusesWrong)) fnDropPlusesCard

/-- THE TOLD CARD OF 'laws.FnDirect'. -/
def fnDirectCard : Claim7 := { stood := { row := fnDirectRow, standIns := [], harness := (true, "3e70c41b23fd9b85ad880f2f1b7763c64cacab6fc76df0d013fd83bdef2678a7"), looks := true }, told := true, goes := false }
def FnDirectToldSaid : Prop := Claim7.holds Tryf.pinned (.plain (OpenSpec.ofChange fnDirectSpec)) fnDirectCard
/-- ITS FALSE NEIGHBOUR. Refute it at one input. -/
def FnDirectToldWrongFalsely : Prop := Claim7.holds Tryf.pinned (.plain (OpenSpec.ofChange fnDirectWrong)) fnDirectCard

/-- THE TOLD CARD OF 'laws.FnClone'. -/
def fnCloneCard : Claim7 := { stood := { row := fnCloneRow, standIns := [], harness := (true, "3e70c41b23fd9b85ad880f2f1b7763c64cacab6fc76df0d013fd83bdef2678a7"), looks := true }, told := true, goes := false }
def FnCloneToldSaid : Prop := Claim7.holds Tryf.pinned (.plain (OpenSpec.ofChange fnCloneSpec)) fnCloneCard
/-- ITS FALSE NEIGHBOUR. Refute it at one input. -/
def FnCloneToldWrongFalsely : Prop := Claim7.holds Tryf.pinned (.plain (OpenSpec.ofChange fnCloneWrong)) fnCloneCard

/-- THE TOLD CARD OF 'laws.FnChildren'. -/
def fnChildrenCard : Claim7 := { stood := { row := fnChildrenRow, standIns := [], harness := (true, "3e70c41b23fd9b85ad880f2f1b7763c64cacab6fc76df0d013fd83bdef2678a7"), looks := true }, told := true, goes := false }
def FnChildrenToldSaid : Prop := Claim7.holds Tryf.pinned (.plain (OpenSpec.ofChange fnChildrenSpec)) fnChildrenCard
/-- ITS FALSE NEIGHBOUR. Refute it at one input. -/
def FnChildrenToldWrongFalsely : Prop := Claim7.holds Tryf.pinned (.plain (OpenSpec.ofChange fnChildrenWrong)) fnChildrenCard

/-- THE TOLD CARD OF 'laws.FnDropBrackets'. -/
def fnDropBracketsCard : Claim7 := { stood := { row := fnDropBracketsRow, standIns := [], harness := (true, "3e70c41b23fd9b85ad880f2f1b7763c64cacab6fc76df0d013fd83bdef2678a7"), looks := true }, told := true, goes := false }
def FnDropBracketsToldSaid : Prop := Claim7.holds Tryf.pinned (.plain (OpenSpec.ofChange fnDropBracketsSpec)) fnDropBracketsCard
/-- ITS FALSE NEIGHBOUR. Refute it at one input. -/
def FnDropBracketsToldWrongFalsely : Prop := Claim7.holds Tryf.pinned (.plain (OpenSpec.ofChange fnDropBracketsWrong)) fnDropBracketsCard
end Rows
end Go.Proofs.YtcoimkidodghgaaFmt
