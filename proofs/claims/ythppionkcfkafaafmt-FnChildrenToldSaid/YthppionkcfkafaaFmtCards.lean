/-
  DERIVED. GIVEN WITH THE SEED: THE CARDS: each row of YthppionkcfkafaaFmtRows.lean that lists a variable, with what it lists TIED to the program's text (the seventh form; the later family's looks); each row that meets fmt, with fmt's text TOLD by the authors' own Lean function (tested against real Go, not proved from fmt's source: count such statements apart). THE CARD IS WHAT COUNTS. Prove the row's statement (the work); the ties are given (YthppionkcfkafaaFmtTie.lean); close each card by the builder's one call (the guide's Derived/Test/ToyasCard.lean, 'card_holds'). Laid BY PROGRAM, IN A SANDBOX (cutbox-door.mjs). By AI agents, Wed Nov 11 2026. No macro, syntax, notation, axiom, sorry.
-/
import Derived.Test.YthppionkcfkafaaFmtRows
import GoSem.ClaimSeven
namespace Go.Proofs.YthppionkcfkafaaFmt
namespace Rows

/-- THE TOLD CARD OF 'laws.FnClone'. -/
def fnCloneCard : Claim7 := { stood := { row := fnCloneRow, standIns := [], harness := (true, "1db54da312f9525f2a84036dad7f080c1fe5647ac154f630a51c23e6b4075718"), looks := true }, told := true, goes := false }
def FnCloneToldSaid : Prop := Claim7.holds Tryf.pinned (.plain (OpenSpec.ofChange fnCloneSpec)) fnCloneCard
/-- ITS FALSE NEIGHBOUR. Refute it at one input. -/
def FnCloneToldWrongFalsely : Prop := Claim7.holds Tryf.pinned (.plain (OpenSpec.ofChange fnCloneWrong)) fnCloneCard

/-- THE TOLD CARD OF 'laws.FnChildren'. -/
def fnChildrenCard : Claim7 := { stood := { row := fnChildrenRow, standIns := [], harness := (true, "1db54da312f9525f2a84036dad7f080c1fe5647ac154f630a51c23e6b4075718"), looks := true }, told := true, goes := false }
def FnChildrenToldSaid : Prop := Claim7.holds Tryf.pinned (.plain (OpenSpec.ofChange fnChildrenSpec)) fnChildrenCard
/-- ITS FALSE NEIGHBOUR. Refute it at one input. -/
def FnChildrenToldWrongFalsely : Prop := Claim7.holds Tryf.pinned (.plain (OpenSpec.ofChange fnChildrenWrong)) fnChildrenCard
end Rows
end Go.Proofs.YthppionkcfkafaaFmt
