/-
  ast.cloneNodeBase, at a node without a context whose free variables are an empty list. Conditions: none.
-/
import Derived.Test.YtceepfnjdkfjnaaFmtAssert
import Derived.Test.YtceepfnjdkfjnaaFmtAst
import Derived.Deep.RegionHeldLaw
import Derived.Deep.AppendLies
import Derived.Lib.BufferMore
import Derived.Deep.RegionWith
namespace Go.Proofs.YtceepfnjdkfjnaaFmt
open Go.ChangeShapes Go.WideShapes Go.ChangeAt Go.RowKit Go.Joins

theorem bk_drew {W : World} {g : Nat} {o : Obj} (h : W.heap[g]? = some o) : W.drew.heap[g]? = some o := h
theorem bk_alloc {W : World} {g : Nat} {o o' : Obj} (h : W.heap[g]? = some o) : (W.alloc o').heap[g]? = some o := (Below.heap_alloc W o' g (heap_lt h)).trans h
theorem bk_set {W : World} {g : Nat} {o : Obj} {p : Addr} {u : Value} (hn : g ≠ p.block) (h : W.heap[g]? = some o) : (W.setCell p u).heap[g]? = some o := (Below.heap_setCell _ _ _ _ hn).trans h
theorem set_same {w : World} {b i : Nat} {cs : Array Value} {T : TypeId} {v : Value} (hb : w.heap[b]? = some (.cells cs T)) : (w.setCell ⟨b, i, none⟩ v).heap[b]? = some (.cells (cs.setIfInBounds i v) T) := by
  simp [World.setCell, Array.getElem?_modify, hb]
theorem grown_set (w : World) (b i : Nat) (v : Value) : w.grownBy (w.setCell ⟨b, i, none⟩ v) (some b) :=
  ⟨rfl, rfl, rfl, by simp [World.setCell], fun k _ hk => Below.heap_setCell _ _ _ _ (fun e => hk (by rw [e]))⟩
theorem grown_then {a w w' : World} {row : Option Nat} (h : a.grownBy w row) (k : w.grownBy w' row) : a.grownBy w' row :=
  ⟨k.os.trans h.os, k.tape.trans h.tape, k.output.trans h.output, Nat.le_trans h.size k.size, fun i hi hr => (k.block i (Nat.lt_of_lt_of_le hi h.size) hr).trans (h.block i hi hr)⟩
theorem grown_below' {a w w' : World} {row : Option Nat} (h : a.grownBy w row) (k : Below w.heap.size w w') : a.grownBy w' row :=
  ⟨k.os.trans h.os, k.tape.trans h.tape, k.output.trans h.output, Nat.le_trans h.size k.size, fun i hi hr => (k.block i (Nat.lt_of_lt_of_le hi h.size)).trans (h.block i hi hr)⟩
theorem grown_alloc' {a w : World} {row : Option Nat} (h : a.grownBy w row) (o : Obj) : a.grownBy (w.alloc o).drew row := grown_below' h ((below_alloc1 w o).drew)
/-- The methods of a node's base are reached at an offset. -/
structure Based (y : TypeId) (b off : Nat) : Prop where
  ctx : ∀ w, (method 454 y (.pointer (some ⟨b, 0, none⟩)) "Context").run Tryf.prog w = .ok (92, .pointer (some ⟨b, off, none⟩)) w
  fv : ∀ w, (method 454 y (.pointer (some ⟨b, 0, none⟩)) "FreeVariables").run Tryf.prog w = .ok (93, .pointer (some ⟨b, off, none⟩)) w
  set : ∀ w, (method 454 y (.pointer (some ⟨b, 0, none⟩)) "SetFreeVariables").run Tryf.prog w = .ok (95, .pointer (some ⟨b, off, none⟩)) w
  nil : ∀ w, (nilAhead 454 y (.pointer (some ⟨b, 0, none⟩)) "SetFreeVariables").run Tryf.prog w = .ok (some false) w
theorem based_null (b : Nat) : Based 194 b 0 := ⟨fun _ => by kernel_rfl, fun _ => by kernel_rfl, fun _ => by kernel_rfl, fun _ => by kernel_rfl⟩
theorem based_boolean (b : Nat) : Based 195 b 0 := ⟨fun _ => by kernel_rfl, fun _ => by kernel_rfl, fun _ => by kernel_rfl, fun _ => by kernel_rfl⟩
theorem based_number (b : Nat) : Based 198 b 1 := ⟨fun _ => by kernel_rfl, fun _ => by kernel_rfl, fun _ => by kernel_rfl, fun _ => by kernel_rfl⟩
theorem based_str (b : Nat) : Based 54 b 3 := ⟨fun _ => by kernel_rfl, fun _ => by kernel_rfl, fun _ => by kernel_rfl, fun _ => by kernel_rfl⟩
theorem based_self (b : Nat) : Based 201 b 0 := ⟨fun _ => by kernel_rfl, fun _ => by kernel_rfl, fun _ => by kernel_rfl, fun _ => by kernel_rfl⟩
theorem based_dollar (b : Nat) : Based 202 b 0 := ⟨fun _ => by kernel_rfl, fun _ => by kernel_rfl, fun _ => by kernel_rfl, fun _ => by kernel_rfl⟩
theorem based_var (b : Nat) : Based 203 b 1 := ⟨fun _ => by kernel_rfl, fun _ => by kernel_rfl, fun _ => by kernel_rfl, fun _ => by kernel_rfl⟩
theorem based_unary (b : Nat) : Based 96 b 1 := ⟨fun _ => by kernel_rfl, fun _ => by kernel_rfl, fun _ => by kernel_rfl, fun _ => by kernel_rfl⟩
theorem based_binary (b : Nat) : Based 101 b 3 := ⟨fun _ => by kernel_rfl, fun _ => by kernel_rfl, fun _ => by kernel_rfl, fun _ => by kernel_rfl⟩
theorem based_if (b : Nat) : Based 105 b 5 := ⟨fun _ => by kernel_rfl, fun _ => by kernel_rfl, fun _ => by kernel_rfl, fun _ => by kernel_rfl⟩
theorem based_brace (b : Nat) : Based 114 b 2 := ⟨fun _ => by kernel_rfl, fun _ => by kernel_rfl, fun _ => by kernel_rfl, fun _ => by kernel_rfl⟩
theorem based_index (b : Nat) : Based 117 b 5 := ⟨fun _ => by kernel_rfl, fun _ => by kernel_rfl, fun _ => by kernel_rfl, fun _ => by kernel_rfl⟩
theorem based_error (b : Nat) : Based 151 b 1 := ⟨fun _ => by kernel_rfl, fun _ => by kernel_rfl, fun _ => by kernel_rfl, fun _ => by kernel_rfl⟩
theorem based_parens (b : Nat) : Based 160 b 2 := ⟨fun _ => by kernel_rfl, fun _ => by kernel_rfl, fun _ => by kernel_rfl, fun _ => by kernel_rfl⟩
theorem based_apply (b : Nat) : Based 112 b 6 := ⟨fun _ => by kernel_rfl, fun _ => by kernel_rfl, fun _ => by kernel_rfl, fun _ => by kernel_rfl⟩
theorem based_array (b : Nat) : Based 125 b 2 := ⟨fun _ => by kernel_rfl, fun _ => by kernel_rfl, fun _ => by kernel_rfl, fun _ => by kernel_rfl⟩
theorem based_object (b : Nat) : Based 139 b 2 := ⟨fun _ => by kernel_rfl, fun _ => by kernel_rfl, fun _ => by kernel_rfl, fun _ => by kernel_rfl⟩
theorem mk_ids (w : World) : (Instr.makeSlice 61 (.int .i64 0) (.int .i64 0)).run Tryf.prog w = .ok (.slice (some ⟨w.heap.size, 0, none⟩) 0 0) (w.alloc (.cells #[] 121)) := by kernel_rfl
theorem context_none {w : World} {b off : Nat} (h : w.cell? ⟨b, off + 1, none⟩ = some (.pointer none)) : Calls Tryf.prog 92 #[.pointer (some ⟨b, off, none⟩)] w fun e w' => e = .returned (.pointer none) ∧ w = w' := by
  go_enter Tryf.func92, Tryf.ntmps92
  go_wp2
  go_ret
  exact ⟨rfl, rfl⟩
theorem freeVars_is {w : World} {b off : Nat} {v : Value} (h : w.cell? ⟨b, off + 2, none⟩ = some v) : Calls Tryf.prog 93 #[.pointer (some ⟨b, off, none⟩)] w fun e w' => e = .returned v ∧ w = w' := by
  go_enter Tryf.func93, Tryf.ntmps93
  go_wp2
  go_ret
  exact ⟨rfl, rfl⟩
theorem setFreeVars_is {w : World} {b off : Nat} {u : Value} {g : Option Addr} {n c : Nat} (h : w.cell? ⟨b, off + 2, none⟩ = some u) (hz : ∀ i, w.frozen? ⟨b, i, none⟩ = false) : Calls Tryf.prog 95 #[.pointer (some ⟨b, off, none⟩), .slice g n c] w fun e w' => e = .returned (.tuple #[]) ∧ w' = w.setCell ⟨b, off + 2, none⟩ (.slice g n c) := by
  go_enter Tryf.func95, Tryf.ntmps95
  go_wp2
  go_end0
  exact ⟨rfl, rfl⟩
end Go.Proofs.YtceepfnjdkfjnaaFmt
