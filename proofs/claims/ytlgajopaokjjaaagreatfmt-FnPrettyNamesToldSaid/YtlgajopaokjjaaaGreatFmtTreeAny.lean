/-
  impl.tree, of every tree of which something is stated. Conditions: spec.Tree's.
-/
import Derived.Test.YtlgajopaokjjaaaGreatFmtImplObj
namespace Go.Proofs.YtlgajopaokjjaaaGreatFmt
open Go.ChangeShapes Go.WideShapes Go.ChangeAt Go.RowKit Go.Joins

set_option maxRecDepth 100000 in
set_option maxHeartbeats 8000000 in
theorem tree_object (l : List Tr) (hl : l.length ≤ 6) (hf : ∀ s ∈ l, 0 ≤ s.op ∧ s.op ≤ 2 ∧ ((∃ t, s = .mk 37 s.tx s.op s.fl [t]) ∨ ∃ tx o t, (0 ≤ o ∧ o ≤ 4) ∧ s = .mk 39 ByteArray.empty s.op s.fl [.mk 4 tx o false [], t]))
    (TT : ∀ s ∈ l, ∀ u, s.subs.getLast? = some u → TreeOk u) : TreeOk (.mk 20 ByteArray.empty 0 false l) := by
  intro S w u hs
  obtain ⟨a, cap, rfl, hcap⟩ := hs.form
  have hs : Subs w S l (.slice a l.length cap) := hs
  show Calls Tryz.prog 11 #[.agg #[.int .i64 20, .string ByteArray.empty, .int .i64 0, .bool false, .slice a l.length cap]] w _
  have hB := below_alloc1 w (.cells #[.int .i64 20, .string ByteArray.empty, .int .i64 0, .bool false, .slice a l.length cap] 24)
  have HS := Lib.hid (hs.bel hB); clear hs
  have HF := Lib.hid hf; have HT := Lib.hid TT; clear hf TT
  go_enter Tryz.func11, Tryz.ntmps11
  go_wp2_with fail
  refine (object_any l hl HF.out HT.out HS.out).mono ?_
  rintro e w4 ⟨⟨y, b, rfl, hA⟩, hb4⟩
  have hB4 := hB.trans (hb4.mono hB.size)
  have HA := Lib.hid (hA.mono (T := fun k => w.heap.size ≤ k ∧ k < w4.heap.size) (fun k hk _ => ⟨by have := hk.1; simp at this; omega, hk.2⟩)); clear hA
  go_wp2
  go_ret
  exact ⟨⟨_, _, rfl, HA.out⟩, hB4⟩
theorem tree_any {t : Tr} (h : Ok t) : TreeOk t := by
  induction h with
  | null => exact tree_null
  | boolean fl => exact tree_boolean fl
  | number tx => exact tree_number tx
  | str tx op h0 h4 => exact tree_str tx op
  | self => exact tree_self
  | dollar => exact tree_dollar
  | var tx => exact tree_var tx
  | unary op t1 h0 h4 a1 ih1 => exact tree_unary op t1 ih1
  | binary op t1 t2 h0 h4 a1 a2 ih1 ih2 => exact tree_binary op t1 t2 ih1 ih2
  | if2 t1 t2 a1 a2 ih1 ih2 => exact tree_if2 t1 t2 ih1 ih2
  | if3 t1 t2 t3 a1 a2 a3 ih1 ih2 ih3 => exact tree_if3 t1 t2 t3 ih1 ih2 ih3
  | brace t1 t2 a1 a2 ih1 ih2 => exact tree_brace t1 t2 ih1 ih2
  | index t1 t2 a1 a2 ih1 ih2 => exact tree_index t1 t2 ih1 ih2
  | dot tx t1 a1 ih1 => exact tree_dot tx t1 ih1
  | error t1 a1 ih1 => exact tree_error t1 ih1
  | parens t1 a1 ih1 => exact tree_parens t1 ih1
  | apply t1 l hl a1 aa ih1 iha => exact tree_apply t1 l hl ih1 iha
  | array l hl aa iha => exact tree_array l hl iha
  | object l hl hf aa iha => exact tree_object l hl hf iha
end Go.Proofs.YtlgajopaokjjaaaGreatFmt
