/-
  A buffer that the call has made, and what is written into it. No program in it.
-/
import Derived.Test.YtceepfnjdkfjnaaFmtStrDec
import Derived.Test.YtceepfnjdkfjnaaFmtStrBuf
import Derived.Lib.BufferKept
import Derived.Lib.OwnKind
namespace Go.Proofs.YtceepfnjdkfjnaaFmt
open Go.ChangeShapes Go.WideShapes Go.ChangeAt Go.RowKit Go.Joins

theorem isbuf_below {T e : TypeId} {B b : Nat} {l : List Value} {w w' : World} (hi : Lib.IsBuffer T e B b l w) (hb : Below w.heap.size w w') : Lib.IsBuffer T e B b l w' := by
  have hlt := hi.lt
  obtain ⟨hB, u, lr, hu, ho, hn⟩ := hi
  exact ⟨hB, u, lr, (hb.block b hlt).trans hu, ownsRow_below ho hb, hn⟩
theorem cells_snoc (acc : List UInt8) (r : Nat) : Lib.byteCells acc ++ Lib.runeCells (r : Int) = Lib.byteCells (acc ++ enc r) := by rw [← Lib.byteCells_encodeRune, Lib.byteCells_append]
theorem keep_cell {w w' : World} {a : Addr} {v : Value} (hb : Below w.heap.size w w') (h : w.cell? a = some v) : w'.cell? a = some v := (World.cell?_of_block (w := w) (hb.block _ (World.block_lt_of_cell? w _ h))).trans h
theorem two_cells {w : World} {g x y : Nat} {cur : Array Value} {t : TypeId} (h : w.heap[g]? = some (.cells cur t)) (ht : cur.toList.take (2 * 1) = [UInt8.ofNat x, UInt8.ofNat y].map fun b => Value.int .u8 (b.toNat : Int)) (hx : x < 256) (hy : y < 256) :
    w.cell? ⟨g, 0, none⟩ = some (.int .u8 (x : Int)) ∧ w.cell? ⟨g, 1, none⟩ = some (.int .u8 (y : Int)) := by
  have h0 := congrArg (fun l : List Value => l[0]?) ht
  have h1 := congrArg (fun l : List Value => l[1]?) ht
  simp only [List.getElem?_take, List.map_cons, List.map_nil, ofn hx, ofn hy] at h0 h1
  simp at h0 h1
  exact ⟨cell_of h (by simpa using h0), cell_of h (by simpa using h1)⟩
end Go.Proofs.YtceepfnjdkfjnaaFmt
