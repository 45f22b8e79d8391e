/-
  NARROWER THAN 'FOR EVERY INPUT', by the rows' own cells (each row's printed sentence says how): FnPrettyNames: loops.
  DERIVED. THE GIVEN ROWS OF THIS SEAT. 1 by the template 'for every input the law returns true; each argument reads behind the call as it read before'; 0 by the template 'total and deterministic' (their statements: YtlgajopaokjjaaaGreatFmtTotals.lean).
  GIVEN WITH THE SEED: the statements are not yours to turn. If you find one false, say at which input.
  Laid BY PROGRAM, IN A SANDBOX (cutbox-rows.mjs): the forced cells as the released guide's own fill.sh prints them over the translation 8a6faaa04aeebbcf… (all of the seat's roots in one cut). By AI agents, Wed Nov 11 2026. No macro, syntax, notation, axiom, sorry.
-/
import Derived.Test.YtlgajopaokjjaaaGreatFmtChecked
import GoSem.Claim
import GoSem.ClaimJoined
import GoSem.ClaimMapViews
import Derived.JoinedTies
import Derived.KernelRfl
namespace Go.Proofs.YtlgajopaokjjaaaGreatFmt
/- THE CELL 'sum', in the pinned program and in every row, IS THE sha256 OF THE DUMP (.gsa) THAT YtlgajopaokjjaaaGreatFmtProg.lean LOADS. Nothing in Lean hashes anything: it is a label: what it is worth is what the hold of that sum in a sandbox is worth. -/
noncomputable def Tryz.pinned : Pinned := { name := "ytlgajopaokjjaaagreatfmt", sum := "8a6faaa04aeebbcfe1f82ca884d07ca263986a1276fa2c4bb6964d1cef1bdf7d", checked := Tryz.checked }
namespace Rows
def none {H : Type} : Left H := { results := [], args := [] }

/-- 'laws.FnPrettyNames': WHATEVER THE INPUT: true; the input reads as it did. -/
def fnPrettyNamesSpec : ChangeSpec := { name := "fnPrettyNames", fn := fun _ => fun
  | [d] => { results := [.lit (.bool true)], args := [d] }
  | _ => none }
def fnPrettyNamesRow : OpenClaim := { program := "ytlgajopaokjjaaagreatfmt", sum := "8a6faaa04aeebbcfe1f82ca884d07ca263986a1276fa2c4bb6964d1cef1bdf7d", func := "loop.example/pub-sourcepieces/laws.FnPrettyNames", spec := "fnPrettyNames", stops := ["fmt.Sprintf"], unfollowed := true, recurses := true, loops := true, apart := false }
/-- NO THEOREM (fmt's text is open here; it may be false): for the released tool's asking of the row's closed facts alone. THE STATEMENT IS 'FnPrettyNamesToldSaid' (YtlgajopaokjjaaaGreatFmtCards.lean). -/
def FnPrettyNamesFormAsk : Prop := fnPrettyNamesRow.holds Tryz.pinned (OpenSpec.ofChange fnPrettyNamesSpec)

/-- ITS FALSE NEIGHBOUR: 'it returns false'. Refute it at one input. -/
def fnPrettyNamesWrong : ChangeSpec := { name := "fnPrettyNames", fn := fun _ => fun
  | [d] => { results := [.lit (.bool false)], args := [d] }
  | _ => none }
def FnPrettyNamesWrongFormAsk : Prop := fnPrettyNamesRow.holds Tryz.pinned (OpenSpec.ofChange fnPrettyNamesWrong)

end Rows
end Go.Proofs.YtlgajopaokjjaaaGreatFmt
