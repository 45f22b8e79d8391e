/-
  NARROWER THAN 'FOR EVERY INPUT', by the rows' own cells (each row's printed sentence says how): FnStyleOther: laid · FnStyleString: laid.
  DERIVED. THE GIVEN ROWS OF THIS SEAT. 2 by the template 'for every input the law returns true; each argument reads behind the call as it read before'; 0 by the template 'total and deterministic' (their statements: YthdhmmbjgnpkbaaFmtTotals.lean).
  GIVEN WITH THE SEED: the statements are not yours to turn. If you find one false, say at which input.
  Laid BY PROGRAM, IN A SANDBOX (cutbox-rows.mjs): the forced cells as the released guide's own fill.sh prints them over the translation 1aa19e5bbde4a021… (all of the seat's roots in one cut). By AI agents, Wed Nov 11 2026. No macro, syntax, notation, axiom, sorry.
-/
import Derived.Test.YthdhmmbjgnpkbaaFmtChecked
import GoSem.PinnedTables
import GoSem.Claim
import GoSem.ClaimJoined
import GoSem.ClaimMapViews
import Derived.JoinedTies
import Derived.KernelRfl
namespace Go.Proofs.YthdhmmbjgnpkbaaFmt
/- THE CELL 'sum', in the pinned program and in every row, IS THE sha256 OF THE DUMP (.gsa) THAT YthdhmmbjgnpkbaaFmtProg.lean LOADS. Nothing in Lean hashes anything: it is a label: what it is worth is what the hold of that sum in a sandbox is worth. -/
noncomputable def Tryf.pinned : Pinned := { name := "ythdhmmbjgnpkbaafmt", sum := "1aa19e5bbde4a021f5335b1e24bceca0ae72bd27779953fd4aef32106c231472", checked := Tryf.checked }
namespace Rows
def none {H : Type} : Left H := { results := [], args := [] }

/- WHAT THE LISTED PACKAGE-LEVEL VARIABLES READ AS WHEN THE CALL BEGINS. Each datum BY PROGRAM (the guide's laid-datum.mjs) off the statement by which the dump's own 'gosem.cut.vars' lays the variable. In a bare row this is a premise. The card (YthdhmmbjgnpkbaaFmtCards.lean) ties it to the program's text. -/
def laid_unicode_utf8_acceptRanges {H : Type} : DataW H := .agg [.agg [.lit (.int .u8 128), .lit (.int .u8 191)], .agg [.lit (.int .u8 160), .lit (.int .u8 191)], .agg [.lit (.int .u8 128), .lit (.int .u8 159)], .agg [.lit (.int .u8 144), .lit (.int .u8 191)], .agg [.lit (.int .u8 128), .lit (.int .u8 143)], .agg [.lit (.int .u8 0), .lit (.int .u8 0)], .agg [.lit (.int .u8 0), .lit (.int .u8 0)], .agg [.lit (.int .u8 0), .lit (.int .u8 0)], .agg [.lit (.int .u8 0), .lit (.int .u8 0)], .agg [.lit (.int .u8 0), .lit (.int .u8 0)], .agg [.lit (.int .u8 0), .lit (.int .u8 0)], .agg [.lit (.int .u8 0), .lit (.int .u8 0)], .agg [.lit (.int .u8 0), .lit (.int .u8 0)], .agg [.lit (.int .u8 0), .lit (.int .u8 0)], .agg [.lit (.int .u8 0), .lit (.int .u8 0)], .agg [.lit (.int .u8 0), .lit (.int .u8 0)]]
def laid_bytes_ErrTooLarge {H : Type} : DataW H := .iface "*errors.errorString" (.ptr (.agg [.lit (.string [98, 121, 116, 101, 115, 46, 66, 117, 102, 102, 101, 114, 58, 32, 116, 111, 111, 32, 108, 97, 114, 103, 101])]))
def laid_encoding_hex_ErrLength {H : Type} : DataW H := .iface "*errors.errorString" (.ptr (.agg [.lit (.string [101, 110, 99, 111, 100, 105, 110, 103, 47, 104, 101, 120, 58, 32, 111, 100, 100, 32, 108, 101, 110, 103, 116, 104, 32, 104, 101, 120, 32, 115, 116, 114, 105, 110, 103])]))
/-- One of Go's own tables, pinned by name: the form's constant. -/
def laid_unicode_utf8_first : DataW Unit := Go.Pinned.utf8First

/-- 'laws.FnStyleOther': WHATEVER THE INPUT: true; the input reads as it did. -/
def fnStyleOtherSpec : ChangeSpec := { name := "fnStyleOther", fn := fun _ => fun
  | [d1, d2, d3] => { results := [.lit (.bool true)], args := [d1, d2, d3] }
  | _ => none }
def fnStyleOtherRow : OpenClaim := { program := "ythdhmmbjgnpkbaafmt", sum := "1aa19e5bbde4a021f5335b1e24bceca0ae72bd27779953fd4aef32106c231472", func := "loop.example/pub-sourcepieces/laws.FnStyleOther", spec := "fnStyleOther", stops := ["fmt.Sprintf"], inPlace := ["fmt.Sprintf"], named := ["unicode/utf8.first", "unicode/utf8.acceptRanges", "bytes.ErrTooLarge", "encoding/hex.ErrLength"], apart := false, laid := [("unicode/utf8.acceptRanges", laid_unicode_utf8_acceptRanges), ("bytes.ErrTooLarge", laid_bytes_ErrTooLarge), ("encoding/hex.ErrLength", laid_encoding_hex_ErrLength), ("unicode/utf8.first", laid_unicode_utf8_first)] }
/-- NO THEOREM (fmt's text is open here; it may be false): for the released tool's asking of the row's closed facts alone. THE STATEMENT IS 'FnStyleOtherToldSaid' (YthdhmmbjgnpkbaaFmtCards.lean). -/
def FnStyleOtherFormAsk : Prop := fnStyleOtherRow.holds Tryf.pinned (OpenSpec.ofChange fnStyleOtherSpec)

/-- ITS FALSE NEIGHBOUR: 'it returns false'. Refute it at one input. -/
def fnStyleOtherWrong : ChangeSpec := { name := "fnStyleOther", fn := fun _ => fun
  | [d1, d2, d3] => { results := [.lit (.bool false)], args := [d1, d2, d3] }
  | _ => none }
def FnStyleOtherWrongFormAsk : Prop := fnStyleOtherRow.holds Tryf.pinned (OpenSpec.ofChange fnStyleOtherWrong)

/-- 'laws.FnStyleString': WHATEVER THE INPUT: true; the input reads as it did. -/
def fnStyleStringSpec : ChangeSpec := { name := "fnStyleString", fn := fun _ => fun
  | [d1, d2, d3] => { results := [.lit (.bool true)], args := [d1, d2, d3] }
  | _ => none }
def fnStyleStringRow : OpenClaim := { program := "ythdhmmbjgnpkbaafmt", sum := "1aa19e5bbde4a021f5335b1e24bceca0ae72bd27779953fd4aef32106c231472", func := "loop.example/pub-sourcepieces/laws.FnStyleString", spec := "fnStyleString", stops := ["fmt.Sprintf"], inPlace := ["fmt.Sprintf"], named := ["unicode/utf8.first", "unicode/utf8.acceptRanges", "bytes.ErrTooLarge", "encoding/hex.ErrLength"], apart := false, laid := [("unicode/utf8.acceptRanges", laid_unicode_utf8_acceptRanges), ("bytes.ErrTooLarge", laid_bytes_ErrTooLarge), ("encoding/hex.ErrLength", laid_encoding_hex_ErrLength), ("unicode/utf8.first", laid_unicode_utf8_first)] }
/-- NO THEOREM (fmt's text is open here; it may be false): for the released tool's asking of the row's closed facts alone. THE STATEMENT IS 'FnStyleStringToldSaid' (YthdhmmbjgnpkbaaFmtCards.lean). -/
def FnStyleStringFormAsk : Prop := fnStyleStringRow.holds Tryf.pinned (OpenSpec.ofChange fnStyleStringSpec)

/-- ITS FALSE NEIGHBOUR: 'it returns false'. Refute it at one input. -/
def fnStyleStringWrong : ChangeSpec := { name := "fnStyleString", fn := fun _ => fun
  | [d1, d2, d3] => { results := [.lit (.bool false)], args := [d1, d2, d3] }
  | _ => none }
def FnStyleStringWrongFormAsk : Prop := fnStyleStringRow.holds Tryf.pinned (OpenSpec.ofChange fnStyleStringWrong)

end Rows
end Go.Proofs.YthdhmmbjgnpkbaaFmt
