/-
  DERIVED. GIVEN WITH THE SEED: THE CARDS: each row of YthdhmmbjgnpkbaaFmtRows.lean that lists a variable, with what it lists TIED to the program's text (the seventh form; the later family's looks); each row that meets fmt, with fmt's text TOLD by the authors' own Lean function (tested against real Go, not proved from fmt's source: count such statements apart). THE CARD IS WHAT COUNTS. Prove the row's statement (the work); the ties are given (YthdhmmbjgnpkbaaFmtTie.lean); close each card by the builder's one call (the guide's Derived/Test/ToyasCard.lean, 'card_holds'). Laid BY PROGRAM, IN A SANDBOX (cutbox-door.mjs). By AI agents, Wed Nov 11 2026. No macro, syntax, notation, axiom, sorry.
-/
import Derived.Test.YthdhmmbjgnpkbaaFmtRows
import GoSem.ClaimSeven
namespace Go.Proofs.YthdhmmbjgnpkbaaFmt
namespace Rows

/-- THE TOLD AND TIED CARD OF 'laws.FnStyleOther'. -/
def fnStyleOtherCard : Claim7 := { stood := { row := fnStyleOtherRow, standIns := [], harness := (true, "fb809b70aa13d0a206510a4d7be4061b036ca207e8a3d41db5fe69f29feabf31"), looks := false }, told := true, laidByText := true, laidKinds := [.data, .sentinel, .sentinel, .pinned], laidTests := true, laidLooks := .later, goes := false }
def FnStyleOtherToldSaid : Prop := Claim7.holds Tryf.pinned (.plain (OpenSpec.ofChange fnStyleOtherSpec)) fnStyleOtherCard
/-- ITS FALSE NEIGHBOUR. Refute it at one input. -/
def FnStyleOtherToldWrongFalsely : Prop := Claim7.holds Tryf.pinned (.plain (OpenSpec.ofChange fnStyleOtherWrong)) fnStyleOtherCard

/-- THE TOLD AND TIED CARD OF 'laws.FnStyleString'. -/
def fnStyleStringCard : Claim7 := { stood := { row := fnStyleStringRow, standIns := [], harness := (true, "fb809b70aa13d0a206510a4d7be4061b036ca207e8a3d41db5fe69f29feabf31"), looks := false }, told := true, laidByText := true, laidKinds := [.data, .sentinel, .sentinel, .pinned], laidTests := true, laidLooks := .later, goes := false }
def FnStyleStringToldSaid : Prop := Claim7.holds Tryf.pinned (.plain (OpenSpec.ofChange fnStyleStringSpec)) fnStyleStringCard
/-- ITS FALSE NEIGHBOUR. Refute it at one input. -/
def FnStyleStringToldWrongFalsely : Prop := Claim7.holds Tryf.pinned (.plain (OpenSpec.ofChange fnStyleStringWrong)) fnStyleStringCard
end Rows
end Go.Proofs.YthdhmmbjgnpkbaaFmt
