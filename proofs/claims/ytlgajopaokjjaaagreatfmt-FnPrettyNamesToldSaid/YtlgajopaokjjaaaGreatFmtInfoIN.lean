/-
  The table's row of impl.Node; a list of nodes in new memory. Conditions: none.
-/
import Derived.Test.YtlgajopaokjjaaaGreatFmtNode
import Derived.Deep.AppendLies
namespace Go.Proofs.YtlgajopaokjjaaaGreatFmt
open Go.ChangeShapes Go.WideShapes Go.ChangeAt Go.RowKit Go.Joins

theorem infoIN : (Tryz.prog.info? 24).map (fun i => (i.zero, i.size, i.bytes)) = some (some (.agg #[.int .i64 0, .string ByteArray.empty, .int .i64 0, .bool false, .slice none 0 0]), 5, 64) := by kernel_rfl
/-- A list of nodes in new memory. -/
def ListBack (w : World) (l : List Tr) (e : Ending) (w' : World) : Prop := ∃ v, e = .returned v ∧ Subs w' (fun k => w.heap.size ≤ k) l v
end Go.Proofs.YtlgajopaokjjaaaGreatFmt
