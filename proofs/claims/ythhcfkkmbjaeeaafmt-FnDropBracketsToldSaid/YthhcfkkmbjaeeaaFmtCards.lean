/-
  DERIVED. GIVEN WITH THE SEED: THE CARDS: each row of YthhcfkkmbjaeeaaFmtRows.lean that lists a variable, with what it lists TIED to the program's text (the seventh form; the later family's looks); each row that meets fmt, with fmt's text TOLD by the authors' own Lean function (tested against real Go, not proved from fmt's source: count such statements apart). THE CARD IS WHAT COUNTS. Prove the row's statement (the work); the ties are given (YthhcfkkmbjaeeaaFmtTie.lean); close each card by the builder's one call (the guide's Derived/Test/ToyasCard.lean, 'card_holds'). Laid BY PROGRAM, IN A SANDBOX (cutbox-door.mjs). By AI agents, Wed Nov 11 2026. No macro, syntax, notation, axiom, sorry.
-/
import Derived.Test.YthhcfkkmbjaeeaaFmtRows
import GoSem.ClaimSeven
namespace Go.Proofs.YthhcfkkmbjaeeaaFmt
namespace Rows

/-- THE TOLD CARD OF 'laws.FnDropPluses'. -/
def fnDropPlusesCard : Claim7 := { stood := { row := fnDropPlusesRow, standIns := [], harness := (true, "07e5be753e9cf08d5ad00f6c44bef53f6667a8ba933cc900a689626a0a8c935c"), looks := true }, told := true, goes := false }
def FnDropPlusesToldSaid : Prop := Claim7.holds Tryf.pinned (.plain (OpenSpec.ofChange fnDropPlusesSpec)) fnDropPlusesCard
/-- ITS FALSE NEIGHBOUR. Refute it at one input. -/
def FnDropPlusesToldWrongFalsely : Prop := Claim7.holds Tryf.pinned (.plain (OpenSpec.ofChange fnDropPlusesWrong)) fnDropPlusesCard

/-- THE TOLD CARD OF 'laws.FnDropBrackets'. -/
def fnDropBracketsCard : Claim7 := { stood := { row := fnDropBracketsRow, standIns := [], harness := (true, "07e5be753e9cf08d5ad00f6c44bef53f6667a8ba933cc900a689626a0a8c935c"), looks := true }, told := true, goes := false }
def FnDropBracketsToldSaid : Prop := Claim7.holds Tryf.pinned (.plain (OpenSpec.ofChange fnDropBracketsSpec)) fnDropBracketsCard
/-- ITS FALSE NEIGHBOUR. Refute it at one input. -/
def FnDropBracketsToldWrongFalsely : Prop := Claim7.holds Tryf.pinned (.plain (OpenSpec.ofChange fnDropBracketsWrong)) fnDropBracketsCard
end Rows
end Go.Proofs.YthhcfkkmbjaeeaaFmt
