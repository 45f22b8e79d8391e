/-
  DERIVED. GIVEN WITH THE SEED: THE CARDS: each row of YtlgajopaokjjaaaGreatFmtRows.lean that lists a variable, with what it lists TIED to the program's text (the seventh form; the later family's looks); each row that meets fmt, with fmt's text TOLD by the authors' own Lean function (tested against real Go, not proved from fmt's source: count such statements apart). THE CARD IS WHAT COUNTS. Prove the row's statement (the work); the ties are given (YtlgajopaokjjaaaGreatFmtTie.lean); close each card by the builder's one call (the guide's Derived/Test/ToyasCard.lean, 'card_holds'). Laid BY PROGRAM, IN A SANDBOX (cutbox-door.mjs). By AI agents, Wed Nov 11 2026. No macro, syntax, notation, axiom, sorry.
-/
import Derived.Test.YtlgajopaokjjaaaGreatFmtRows
import GoSem.ClaimSeven
namespace Go.Proofs.YtlgajopaokjjaaaGreatFmt
namespace Rows

/-- THE TOLD CARD OF 'laws.FnPrettyNames'. -/
def fnPrettyNamesCard : Claim7 := { stood := { row := fnPrettyNamesRow, standIns := [], harness := (true, "ca993a654f178620ab5b63c60bc0b01bf5847b83a886f64e2210e321ff8a1059"), looks := true }, told := true, goes := false }
def FnPrettyNamesToldSaid : Prop := Claim7.holds Tryz.pinned (.plain (OpenSpec.ofChange fnPrettyNamesSpec)) fnPrettyNamesCard
/-- ITS FALSE NEIGHBOUR. Refute it at one input. -/
def FnPrettyNamesToldWrongFalsely : Prop := Claim7.holds Tryz.pinned (.plain (OpenSpec.ofChange fnPrettyNamesWrong)) fnPrettyNamesCard
end Rows
end Go.Proofs.YtlgajopaokjjaaaGreatFmt
