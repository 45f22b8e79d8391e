/-
  parser.DirectChildren at trees of which something is stated. Conditions: spec.Tree's.
-/
import Derived.Test.YthppionkcfkafaaFmtNodeAny
import Derived.Test.YthppionkcfkafaaFmtSize
import Derived.Test.YthppionkcfkafaaFmtTreeAny
import Derived.Test.YthppionkcfkafaaFmtDirect
namespace Go.Proofs.YthppionkcfkafaaFmt
open Go.ChangeShapes Go.WideShapes Go.ChangeAt Go.RowKit Go.Joins

theorem direct_any {w : World} {S : Nat → Prop} {t : Tr} {y : TypeId} {b : Nat} (h : Ast w S t y b) (hb6 : Bnd 6 t) (h20 : t.k ≠ 20) (h16 : t.k ≠ 16) :
    Calls Tryf.prog 36 #[.iface y (.pointer (some ⟨b, 0, none⟩))] w fun e w' => RowBack (directF t) e w' ∧ Below w.heap.size w w' := by
  have kid : ∀ {s : Tr}, s ∈ t.subs → Bnd 6 s := fun hs => hb6.sub _ hs
  have none_ : ∀ {e : Ending} {w' : World}, (e = .returned (.slice none 0 0) ∧ w = w') → RowBack [] e w' ∧ Below w.heap.size w w' := fun h => ⟨⟨_, h.1, nodeRow_nil _ _ _⟩, h.2 ▸ Below.refl _ _⟩
  cases h with
  | null b p0 p1 n0 n1 hS hb => exact (DirectChildren_LiteralNull _ _).mono fun _ _ h => none_ h
  | boolean b fl p0 p1 n0 n1 hS hb => exact (DirectChildren_LiteralBoolean _ _).mono fun _ _ h => none_ h
  | number b tx p0 p1 n0 n1 hS hb => exact (DirectChildren_LiteralNumber _ _).mono fun _ _ h => none_ h
  | str b tx op p0 p1 n0 n1 hS hb => exact (DirectChildren_LiteralString _ _).mono fun _ _ h => none_ h
  | self b p0 p1 n0 n1 hS hb => exact (DirectChildren_Self _ _).mono fun _ _ h => none_ h
  | dollar b p0 p1 n0 n1 hS hb => exact (DirectChildren_Dollar _ _).mono fun _ _ h => none_ h
  | var b tx p0 p1 n0 n1 hS hb => exact (DirectChildren_Var _ _).mono fun _ _ h => none_ h
  | unary b op p0 p1 n0 n1 hS s1 hb a1 => exact DirectChildren_unary hb (node_any a1 (kid (by simp [Tr.subs])))
  | binary b op p0 p1 p2 n0 n1 n2 hS s1 s2 d12 hb a1 a2 => exact DirectChildren_binary hb (node_any a1 (kid (by simp [Tr.subs]))) (node_any a2 (kid (by simp [Tr.subs])))
  | if2 b p0 p1 p2 p3 n0 n1 n2 n3 hS s1 s2 d12 hb a1 a2 => exact DirectChildren_if2 hb (node_any a1 (kid (by simp [Tr.subs]))) (node_any a2 (kid (by simp [Tr.subs])))
  | if3 b p0 p1 p2 p3 n0 n1 n2 n3 hS s1 s2 s3 d12 d13 d23 hb a1 a2 a3 => exact DirectChildren_if3 hb (node_any a1 (kid (by simp [Tr.subs]))) (node_any a2 (kid (by simp [Tr.subs]))) (node_any a3 (kid (by simp [Tr.subs])))
  | brace b p0 p1 n0 n1 hS s1 s2 d12 hb a1 a2 => exact DirectChildren_brace hb (node_any a1 (kid (by simp [Tr.subs]))) (node_any a2 (kid (by simp [Tr.subs])))
  | index b p0 p1 p2 p3 n0 n1 n2 n3 hS s1 s2 d12 hb a1 a2 => exact DirectChildren_index hb (node_any a1 (kid (by simp [Tr.subs]))) (node_any a2 (kid (by simp [Tr.subs])))
  | dot b c tx p0 p1 p2 p3 n0 n1 n2 n3 hS hc hbc s1 hb hid a1 => exact absurd rfl h16
  | error b p0 p1 n0 n1 hS s1 hb a1 => exact DirectChildren_error hb (node_any a1 (kid (by simp [Tr.subs])))
  | parens b p0 p1 p2 n0 n1 n2 hS s1 hb a1 => exact DirectChildren_parens hb (node_any a1 (kid (by simp [Tr.subs])))
  | apply b g cur p0 p1 p2 p3 p4 p5 n0 n1 n2 n3 n4 n5 cap tc a hS s1 hg hcap hr ss dd hb a1 aa => exact DirectChildren_apply hb (node_any a1 (kid (by simp [Tr.subs])))
  | array b g cur p0 p1 p2 n0 n1 n2 cap tc a hS hg hcap hr ss dd hb aa => exact (DirectChildren_Array _ _).mono fun _ _ h => none_ h
  | object b g cur p0 p1 p2 n0 n1 n2 cap tc a hS hg hcap hr ss d12 dd di hb a1 a2 => exact absurd rfl h20
theorem directF_le (t : Tr) : (directF t).length ≤ t.subs.length := by
  unfold directF
  split
  · rw [List.length_take]; omega
  · split <;> simp
end Go.Proofs.YthppionkcfkafaaFmt
