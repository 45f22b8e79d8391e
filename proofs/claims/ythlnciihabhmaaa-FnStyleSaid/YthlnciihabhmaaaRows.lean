/-
  No cell of these rows narrows 'for every input' (looked for: loops, veiled, ifaces, maps, wideKeys, modest, calm, conditions, laid).
  DERIVED. THE GIVEN ROWS OF THIS SEAT. 5 by the template 'for every input the law returns true; each argument reads behind the call as it read before'; 0 by the template 'total and deterministic' (their statements: YthlnciihabhmaaaTotals.lean).
  GIVEN WITH THE SEED: the statements are not yours to turn. If you find one false, say at which input.
  Laid BY PROGRAM, IN A SANDBOX (cutbox-rows.mjs): the forced cells as the released guide's own fill.sh prints them over the translation fc13717c1ef114f4… (all of the seat's roots in one cut). By AI agents, Wed Nov 11 2026. No macro, syntax, notation, axiom, sorry.
-/
import Derived.Test.YthlnciihabhmaaaChecked
import GoSem.Claim
import GoSem.ClaimJoined
import GoSem.ClaimMapViews
import Derived.JoinedTies
import Derived.KernelRfl
namespace Go.Proofs.Ythlnciihabhmaaa
/- THE CELL 'sum', in the pinned program and in every row, IS THE sha256 OF THE DUMP (.gsa) THAT YthlnciihabhmaaaProg.lean LOADS. Nothing in Lean hashes anything: it is a label: what it is worth is what the hold of that sum in a sandbox is worth. -/
noncomputable def Try.pinned : Pinned := { name := "ythlnciihabhmaaa", sum := "fc13717c1ef114f46a96ad875e127ad444bb1004d77fedd2558b18e5aa39f7c5", checked := Try.checked }
namespace Rows
def none {H : Type} : Left H := { results := [], args := [] }

/-- 'laws.FnIsClean': WHATEVER THE INPUT: true; the input reads as it did. -/
def fnIsCleanSpec : ChangeSpec := { name := "fnIsClean", fn := fun _ => fun
  | [d] => { results := [.lit (.bool true)], args := [d] }
  | _ => none }
def fnIsCleanRow : OpenClaim := { program := "ythlnciihabhmaaa", sum := "fc13717c1ef114f46a96ad875e127ad444bb1004d77fedd2558b18e5aa39f7c5", func := "loop.example/pub-sourcepieces/laws.FnIsClean", spec := "fnIsClean", apart := false }
def FnIsCleanSaid : Prop := fnIsCleanRow.holds Try.pinned (OpenSpec.ofChange fnIsCleanSpec)

/-- ITS FALSE NEIGHBOUR: 'it returns false'. Refute it at one input. -/
def fnIsCleanWrong : ChangeSpec := { name := "fnIsClean", fn := fun _ => fun
  | [d] => { results := [.lit (.bool false)], args := [d] }
  | _ => none }
def FnIsCleanWrongFalsely : Prop := fnIsCleanRow.holds Try.pinned (OpenSpec.ofChange fnIsCleanWrong)

/-- 'laws.FnLimit': WHATEVER THE INPUT: true; the input reads as it did. -/
def fnLimitSpec : ChangeSpec := { name := "fnLimit", fn := fun _ => fun
  | [d1, d2] => { results := [.lit (.bool true)], args := [d1, d2] }
  | _ => none }
def fnLimitRow : OpenClaim := { program := "ythlnciihabhmaaa", sum := "fc13717c1ef114f46a96ad875e127ad444bb1004d77fedd2558b18e5aa39f7c5", func := "loop.example/pub-sourcepieces/laws.FnLimit", spec := "fnLimit", apart := false }
def FnLimitSaid : Prop := fnLimitRow.holds Try.pinned (OpenSpec.ofChange fnLimitSpec)

/-- ITS FALSE NEIGHBOUR: 'it returns false'. Refute it at one input. -/
def fnLimitWrong : ChangeSpec := { name := "fnLimit", fn := fun _ => fun
  | [d1, d2] => { results := [.lit (.bool false)], args := [d1, d2] }
  | _ => none }
def FnLimitWrongFalsely : Prop := fnLimitRow.holds Try.pinned (OpenSpec.ofChange fnLimitWrong)

/-- 'laws.FnStyle': WHATEVER THE INPUT: true; the input reads as it did. -/
def fnStyleSpec : ChangeSpec := { name := "fnStyle", fn := fun _ => fun
  | [d1, d2] => { results := [.lit (.bool true)], args := [d1, d2] }
  | _ => none }
def fnStyleRow : OpenClaim := { program := "ythlnciihabhmaaa", sum := "fc13717c1ef114f46a96ad875e127ad444bb1004d77fedd2558b18e5aa39f7c5", func := "loop.example/pub-sourcepieces/laws.FnStyle", spec := "fnStyle", apart := false }
def FnStyleSaid : Prop := fnStyleRow.holds Try.pinned (OpenSpec.ofChange fnStyleSpec)

/-- ITS FALSE NEIGHBOUR: 'it returns false'. Refute it at one input. -/
def fnStyleWrong : ChangeSpec := { name := "fnStyle", fn := fun _ => fun
  | [d1, d2] => { results := [.lit (.bool false)], args := [d1, d2] }
  | _ => none }
def FnStyleWrongFalsely : Prop := fnStyleRow.holds Try.pinned (OpenSpec.ofChange fnStyleWrong)

/-- 'laws.FnStripAll': WHATEVER THE INPUT: true; the input reads as it did. -/
def fnStripAllSpec : ChangeSpec := { name := "fnStripAll", fn := fun _ => fun
  | [d] => { results := [.lit (.bool true)], args := [d] }
  | _ => none }
def fnStripAllRow : OpenClaim := { program := "ythlnciihabhmaaa", sum := "fc13717c1ef114f46a96ad875e127ad444bb1004d77fedd2558b18e5aa39f7c5", func := "loop.example/pub-sourcepieces/laws.FnStripAll", spec := "fnStripAll", apart := false }
def FnStripAllSaid : Prop := fnStripAllRow.holds Try.pinned (OpenSpec.ofChange fnStripAllSpec)

/-- ITS FALSE NEIGHBOUR: 'it returns false'. Refute it at one input. -/
def fnStripAllWrong : ChangeSpec := { name := "fnStripAll", fn := fun _ => fun
  | [d] => { results := [.lit (.bool false)], args := [d] }
  | _ => none }
def FnStripAllWrongFalsely : Prop := fnStripAllRow.holds Try.pinned (OpenSpec.ofChange fnStripAllWrong)

/-- 'laws.FnStripComments': WHATEVER THE INPUT: true; the input reads as it did. -/
def fnStripCommentsSpec : ChangeSpec := { name := "fnStripComments", fn := fun _ => fun
  | [d] => { results := [.lit (.bool true)], args := [d] }
  | _ => none }
def fnStripCommentsRow : OpenClaim := { program := "ythlnciihabhmaaa", sum := "fc13717c1ef114f46a96ad875e127ad444bb1004d77fedd2558b18e5aa39f7c5", func := "loop.example/pub-sourcepieces/laws.FnStripComments", spec := "fnStripComments", apart := false }
def FnStripCommentsSaid : Prop := fnStripCommentsRow.holds Try.pinned (OpenSpec.ofChange fnStripCommentsSpec)

/-- ITS FALSE NEIGHBOUR: 'it returns false'. Refute it at one input. -/
def fnStripCommentsWrong : ChangeSpec := { name := "fnStripComments", fn := fun _ => fun
  | [d] => { results := [.lit (.bool false)], args := [d] }
  | _ => none }
def FnStripCommentsWrongFalsely : Prop := fnStripCommentsRow.holds Try.pinned (OpenSpec.ofChange fnStripCommentsWrong)

/- THE SECOND FORM. 'bulk': how many values and letters a reading holds, each counted each time it is reached (what is shared counts as often as it is met; a slice's spare places count too). A statement '..UptoSaid' is the law's where the arguments, and the package variables that the reading takes, are together of bulk at most 1048576: NARROWER than '..Said'. Prove '..Said' where nothing that the law and all that it calls make is longer than what came in: it says more and counts as full. Else prove '..UptoSaid'. A law counts once. -/
mutual
def uptoBulk {H : Type} : DataW H → Nat
  | .lit (.string bytes) => bytes.length + 1
  | .lit _ => 1
  | .nil => 1
  | .ptr d => uptoBulk d + 1
  | .slice elems spare => uptoBulkAll elems + uptoBulkAll spare + 1
  | .agg parts => uptoBulkAll parts + 1
  | .iface _ d => uptoBulk d + 1
  | .map entries => uptoBulkEntries entries + 1
  | .held _ => 1
def uptoBulkAll {H : Type} : List (DataW H) → Nat
  | [] => 0
  | d :: r => uptoBulk d + uptoBulkAll r
def uptoBulkEntries {H : Type} : List (Lit × DataW H) → Nat
  | [] => 0
  | x :: r => uptoBulkEntry x + uptoBulkEntries r
def uptoBulkEntry {H : Type} : Lit × DataW H → Nat
  | (.string bytes, d) => bytes.length + uptoBulk d + 1
  | (_, d) => uptoBulk d + 1
 end
def uptoSmall : (H : Type) → List (DataW H) → Bool := fun _ ds => decide (uptoBulkAll ds ≤ 1048576)
def OpenSpec.upto (s : _root_.Go.ChangeSpec) : _root_.Go.OpenSpec := { _root_.Go.OpenSpec.ofChange s with cond := some uptoSmall }

/-- 'laws.FnIsClean', WHERE WHAT IT READS IS OF BULK AT MOST 1048576: true; the input reads as it did. -/
def fnIsCleanUptoRow : OpenClaim := { program := "ythlnciihabhmaaa", sum := "fc13717c1ef114f46a96ad875e127ad444bb1004d77fedd2558b18e5aa39f7c5", func := "loop.example/pub-sourcepieces/laws.FnIsClean", spec := "fnIsClean", apart := false, narrowed := true }
def FnIsCleanUptoSaid : Prop := fnIsCleanUptoRow.holds Try.pinned (OpenSpec.upto fnIsCleanSpec)

/-- 'laws.FnLimit', WHERE WHAT IT READS IS OF BULK AT MOST 1048576: true; the input reads as it did. -/
def fnLimitUptoRow : OpenClaim := { program := "ythlnciihabhmaaa", sum := "fc13717c1ef114f46a96ad875e127ad444bb1004d77fedd2558b18e5aa39f7c5", func := "loop.example/pub-sourcepieces/laws.FnLimit", spec := "fnLimit", apart := false, narrowed := true }
def FnLimitUptoSaid : Prop := fnLimitUptoRow.holds Try.pinned (OpenSpec.upto fnLimitSpec)

/-- 'laws.FnStyle', WHERE WHAT IT READS IS OF BULK AT MOST 1048576: true; the input reads as it did. -/
def fnStyleUptoRow : OpenClaim := { program := "ythlnciihabhmaaa", sum := "fc13717c1ef114f46a96ad875e127ad444bb1004d77fedd2558b18e5aa39f7c5", func := "loop.example/pub-sourcepieces/laws.FnStyle", spec := "fnStyle", apart := false, narrowed := true }
def FnStyleUptoSaid : Prop := fnStyleUptoRow.holds Try.pinned (OpenSpec.upto fnStyleSpec)

/-- 'laws.FnStripAll', WHERE WHAT IT READS IS OF BULK AT MOST 1048576: true; the input reads as it did. -/
def fnStripAllUptoRow : OpenClaim := { program := "ythlnciihabhmaaa", sum := "fc13717c1ef114f46a96ad875e127ad444bb1004d77fedd2558b18e5aa39f7c5", func := "loop.example/pub-sourcepieces/laws.FnStripAll", spec := "fnStripAll", apart := false, narrowed := true }
def FnStripAllUptoSaid : Prop := fnStripAllUptoRow.holds Try.pinned (OpenSpec.upto fnStripAllSpec)

/-- 'laws.FnStripComments', WHERE WHAT IT READS IS OF BULK AT MOST 1048576: true; the input reads as it did. -/
def fnStripCommentsUptoRow : OpenClaim := { program := "ythlnciihabhmaaa", sum := "fc13717c1ef114f46a96ad875e127ad444bb1004d77fedd2558b18e5aa39f7c5", func := "loop.example/pub-sourcepieces/laws.FnStripComments", spec := "fnStripComments", apart := false, narrowed := true }
def FnStripCommentsUptoSaid : Prop := fnStripCommentsUptoRow.holds Try.pinned (OpenSpec.upto fnStripCommentsSpec)

end Rows
end Go.Proofs.Ythlnciihabhmaaa
