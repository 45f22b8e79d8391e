/-
  DERIVED. GIVEN WITH THE SEED: THE CARDS: each row of YtbfigfpaphajgaaFmtRows.lean that lists a variable, with what it lists TIED to the program's text (the seventh form; the later family's looks); each row that meets fmt, with fmt's text TOLD by the authors' own Lean function (tested against real Go, not proved from fmt's source: count such statements apart). THE CARD IS WHAT COUNTS. Prove the row's statement (the work); the ties are given (YtbfigfpaphajgaaFmtTie.lean); close each card by the builder's one call (the guide's Derived/Test/ToyasCard.lean, 'card_holds'). Laid BY PROGRAM, IN A SANDBOX (cutbox-door.mjs). By AI agents, Wed Nov 11 2026. No macro, syntax, notation, axiom, sorry.
-/
import Derived.Test.YtbfigfpaphajgaaFmtRows
import GoSem.ClaimSeven
namespace Go.Proofs.YtbfigfpaphajgaaFmt
namespace Rows

/-- THE TOLD AND TIED CARD OF 'laws.FnOpText'. -/
def fnOpTextCard : Claim7 := { stood := { row := fnOpTextRow, standIns := [], harness := (true, "fa80c4703821ef790515f0ea84d39f8772d3c7e63e30b62f44777c22773fede6"), looks := false }, told := true, laidByText := true, laidKinds := [.data], laidTests := true, laidLooks := .later, goes := false }
def FnOpTextToldSaid : Prop := Claim7.holds Tryf.pinned (.plain (OpenSpec.ofChange fnOpTextSpec)) fnOpTextCard
/-- ITS FALSE NEIGHBOUR. Refute it at one input. -/
def FnOpTextToldWrongFalsely : Prop := Claim7.holds Tryf.pinned (.plain (OpenSpec.ofChange fnOpTextWrong)) fnOpTextCard

/-- THE TOLD AND TIED CARD OF 'laws.FnSignText'. -/
def fnSignTextCard : Claim7 := { stood := { row := fnSignTextRow, standIns := [], harness := (true, "fa80c4703821ef790515f0ea84d39f8772d3c7e63e30b62f44777c22773fede6"), looks := false }, told := true, laidByText := true, laidKinds := [.data], laidTests := true, laidLooks := .later, goes := false }
def FnSignTextToldSaid : Prop := Claim7.holds Tryf.pinned (.plain (OpenSpec.ofChange fnSignTextSpec)) fnSignTextCard
/-- ITS FALSE NEIGHBOUR. Refute it at one input. -/
def FnSignTextToldWrongFalsely : Prop := Claim7.holds Tryf.pinned (.plain (OpenSpec.ofChange fnSignTextWrong)) fnSignTextCard
end Rows
end Go.Proofs.YtbfigfpaphajgaaFmt
