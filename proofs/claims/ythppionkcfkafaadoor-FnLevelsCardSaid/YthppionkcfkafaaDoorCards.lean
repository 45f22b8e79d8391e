/-
  DERIVED. GIVEN WITH THE SEED: THE CARDS: each row of YthppionkcfkafaaDoorRows.lean that lists a variable, with what it lists TIED to the program's text (the seventh form; the later family's looks); each row that meets fmt, with fmt's text TOLD by the authors' own Lean function (tested against real Go, not proved from fmt's source: count such statements apart). THE CARD IS WHAT COUNTS. Prove the row's statement (the work); the ties are given (YthppionkcfkafaaDoorTie.lean); close each card by the builder's one call (the guide's Derived/Test/ToyasCard.lean, 'card_holds'). Laid BY PROGRAM, IN A SANDBOX (cutbox-door.mjs). By AI agents, Wed Nov 11 2026. No macro, syntax, notation, axiom, sorry.
-/
import Derived.Test.YthppionkcfkafaaDoorRows
import GoSem.ClaimSeven
namespace Go.Proofs.YthppionkcfkafaaDoor
namespace Rows

/-- THE TIED CARD OF 'laws.FnLevels'. -/
def fnLevelsCard : Claim7 := { stood := { row := fnLevelsRow, standIns := [], harness := (true, "0fdd8c8dd9266e3235fc31aa0560068c3a666f28b85eb6e47558bb7d0bd05ff7"), looks := true }, kinds := [], alts := [], laidByText := true, laidKinds := [.mapped], laidTests := true, laidLooks := .later }
def FnLevelsCardSaid : Prop := Claim7.holds Tryd.pinned (.plain (OpenSpec.ofChange fnLevelsSpec)) fnLevelsCard

/-- THE TIED CARD OF 'laws.FnLines'. -/
def fnLinesCard : Claim7 := { stood := { row := fnLinesRow, standIns := [], harness := (true, "0fdd8c8dd9266e3235fc31aa0560068c3a666f28b85eb6e47558bb7d0bd05ff7"), looks := true }, kinds := [], alts := [], laidByText := true, laidKinds := [.sentinel], laidTests := true, laidLooks := .later }
def FnLinesCardSaid : Prop := Claim7.holds Tryd.pinned (.plain (OpenSpec.ofChange fnLinesSpec)) fnLinesCard

/-- THE TIED CARD OF 'laws.FnLineBehind'. -/
def fnLineBehindCard : Claim7 := { stood := { row := fnLineBehindRow, standIns := [], harness := (true, "0fdd8c8dd9266e3235fc31aa0560068c3a666f28b85eb6e47558bb7d0bd05ff7"), looks := true }, kinds := [], alts := [], laidByText := true, laidKinds := [.sentinel], laidTests := true, laidLooks := .later }
def FnLineBehindCardSaid : Prop := Claim7.holds Tryd.pinned (.plain (OpenSpec.ofChange fnLineBehindSpec)) fnLineBehindCard

/-- THE SECOND FORM's CARD OF 'laws.FnLevels'. -/
def fnLevelsUptoCard : Claim7 := { stood := { row := fnLevelsUptoRow, standIns := [], harness := (true, "0fdd8c8dd9266e3235fc31aa0560068c3a666f28b85eb6e47558bb7d0bd05ff7"), looks := true }, kinds := [], alts := [], laidByText := true, laidKinds := [.mapped], laidTests := true, laidLooks := .later }
def FnLevelsUptoCardSaid : Prop := Claim7.holds Tryd.pinned (.plain (OpenSpec.upto fnLevelsSpec)) fnLevelsUptoCard

/-- THE SECOND FORM's CARD OF 'laws.FnLines'. -/
def fnLinesUptoCard : Claim7 := { stood := { row := fnLinesUptoRow, standIns := [], harness := (true, "0fdd8c8dd9266e3235fc31aa0560068c3a666f28b85eb6e47558bb7d0bd05ff7"), looks := true }, kinds := [], alts := [], laidByText := true, laidKinds := [.sentinel], laidTests := true, laidLooks := .later }
def FnLinesUptoCardSaid : Prop := Claim7.holds Tryd.pinned (.plain (OpenSpec.upto fnLinesSpec)) fnLinesUptoCard

/-- THE SECOND FORM's CARD OF 'laws.FnLineBehind'. -/
def fnLineBehindUptoCard : Claim7 := { stood := { row := fnLineBehindUptoRow, standIns := [], harness := (true, "0fdd8c8dd9266e3235fc31aa0560068c3a666f28b85eb6e47558bb7d0bd05ff7"), looks := true }, kinds := [], alts := [], laidByText := true, laidKinds := [.sentinel], laidTests := true, laidLooks := .later }
def FnLineBehindUptoCardSaid : Prop := Claim7.holds Tryd.pinned (.plain (OpenSpec.upto fnLineBehindSpec)) fnLineBehindUptoCard
end Rows
end Go.Proofs.YthppionkcfkafaaDoor
