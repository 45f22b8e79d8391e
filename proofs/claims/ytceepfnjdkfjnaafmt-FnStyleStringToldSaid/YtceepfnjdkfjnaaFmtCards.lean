/-
  DERIVED. GIVEN WITH THE SEED: THE CARDS: each row of YtceepfnjdkfjnaaFmtRows.lean that lists a variable, with what it lists TIED to the program's text (the seventh form; the later family's looks); each row that meets fmt, with fmt's text TOLD by the authors' own Lean function (tested against real Go, not proved from fmt's source: count such statements apart). THE CARD IS WHAT COUNTS. Prove the row's statement (the work); the ties are given (YtceepfnjdkfjnaaFmtTie.lean); close each card by the builder's one call (the guide's Derived/Test/ToyasCard.lean, 'card_holds'). Laid BY PROGRAM, IN A SANDBOX (cutbox-door.mjs). By AI agents, Wed Nov 11 2026. No macro, syntax, notation, axiom, sorry.
-/
import Derived.Test.YtceepfnjdkfjnaaFmtRows
import GoSem.ClaimSeven
namespace Go.Proofs.YtceepfnjdkfjnaaFmt
namespace Rows

/-- THE TOLD AND TIED CARD OF 'laws.FnStyleString'. -/
def fnStyleStringCard : Claim7 := { stood := { row := fnStyleStringRow, standIns := [], harness := (true, "eb9ed597975d2f0b43fd68c5ef8ad7ed32f569d2f55c4306ae7a5f0b8b05e90f"), looks := true }, told := true, laidByText := true, laidKinds := [.data, .sentinel, .sentinel, .pinned], laidTests := true, laidLooks := .later, goes := false }
def FnStyleStringToldSaid : Prop := Claim7.holds Tryf.pinned (.plain (OpenSpec.ofChange fnStyleStringSpec)) fnStyleStringCard
/-- ITS FALSE NEIGHBOUR. Refute it at one input. -/
def FnStyleStringToldWrongFalsely : Prop := Claim7.holds Tryf.pinned (.plain (OpenSpec.ofChange fnStyleStringWrong)) fnStyleStringCard

/-- THE TOLD CARD OF 'laws.FnClone'. -/
def fnCloneCard : Claim7 := { stood := { row := fnCloneRow, standIns := [], harness := (true, "eb9ed597975d2f0b43fd68c5ef8ad7ed32f569d2f55c4306ae7a5f0b8b05e90f"), looks := true }, told := true, goes := false }
def FnCloneToldSaid : Prop := Claim7.holds Tryf.pinned (.plain (OpenSpec.ofChange fnCloneSpec)) fnCloneCard
/-- ITS FALSE NEIGHBOUR. Refute it at one input. -/
def FnCloneToldWrongFalsely : Prop := Claim7.holds Tryf.pinned (.plain (OpenSpec.ofChange fnCloneWrong)) fnCloneCard
end Rows
end Go.Proofs.YtceepfnjdkfjnaaFmt
