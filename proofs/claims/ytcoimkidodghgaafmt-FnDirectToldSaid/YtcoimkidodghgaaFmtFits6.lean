/-
  parser.DirectChildren and impl.DirectChildren at trees of which something is stated. Conditions: spec.Tree's.
-/
import Derived.Test.YtcoimkidodghgaaFmtNodeAny
import Derived.Test.YtcoimkidodghgaaFmtSize
import Derived.Test.YtcoimkidodghgaaFmtTreeAny
import Derived.Test.YtcoimkidodghgaaFmtDirect
namespace Go.Proofs.YtcoimkidodghgaaFmt
open Go.ChangeShapes Go.WideShapes Go.ChangeAt Go.RowKit Go.Joins

theorem direct_any {w : World} {S : Nat → Prop} {t : Tr} {y : TypeId} {b : Nat} (h : Ast w S t y b) (hb6 : Bnd 6 t) (h20 : t.k ≠ 20) (h16 : t.k ≠ 16) :
    Calls Tryf.prog 29 #[.iface y (.pointer (some ⟨b, 0, none⟩))] w fun e w' => RowBack (directF t) e w' ∧ Below w.heap.size w w' := by
  have kid : ∀ {s : Tr}, s ∈ t.subs → Bnd 6 s := fun hs => hb6.sub _ hs
  have none_ : ∀ {e : Ending} {w' : World}, (e = .returned (.slice none 0 0) ∧ w = w') → RowBack [] e w' ∧ Below w.heap.size w w' := fun h => ⟨⟨_, h.1, nodeRow_nil _ _ _⟩, h.2 ▸ Below.refl _ _⟩
  cases h with
  | null b p0 p1 n0 n1 hS hb => exact (DirectChildren_LiteralNull _ _).mono fun _ _ h => none_ h
  | boolean b fl p0 p1 n0 n1 hS hb => exact (DirectChildren_LiteralBoolean _ _).mono fun _ _ h => none_ h
  | number b tx p0 p1 n0 n1 hS hb => exact (DirectChildren_LiteralNumber _ _).mono fun _ _ h => none_ h
  | str b tx op p0 p1 n0 n1 hS hb => exact (DirectChildren_LiteralString _ _).mono fun _ _ h => none_ h
  | self b p0 p1 n0 n1 hS hb => exact (DirectChildren_Self _ _).mono fun _ _ h => none_ h
  | dollar b p0 p1 n0 n1 hS hb => exact (DirectChildren_Dollar _ _).mono fun _ _ h => none_ h
  | var b tx p0 p1 n0 n1 hS hb => exact (DirectChildren_Var _ _).mono fun _ _ h => none_ h
  | unary b op p0 p1 n0 n1 hS s1 hb a1 => exact DirectChildren_unary hb (node_any a1 (kid (by simp [Tr.subs])))
  | binary b op p0 p1 p2 n0 n1 n2 hS s1 s2 d12 hb a1 a2 => exact DirectChildren_binary hb (node_any a1 (kid (by simp [Tr.subs]))) (node_any a2 (kid (by simp [Tr.subs])))
  | if2 b p0 p1 p2 p3 n0 n1 n2 n3 hS s1 s2 d12 hb a1 a2 => exact DirectChildren_if2 hb (node_any a1 (kid (by simp [Tr.subs]))) (node_any a2 (kid (by simp [Tr.subs])))
  | if3 b p0 p1 p2 p3 n0 n1 n2 n3 hS s1 s2 s3 d12 d13 d23 hb a1 a2 a3 => exact DirectChildren_if3 hb (node_any a1 (kid (by simp [Tr.subs]))) (node_any a2 (kid (by simp [Tr.subs]))) (node_any a3 (kid (by simp [Tr.subs])))
  | brace b p0 p1 n0 n1 hS s1 s2 d12 hb a1 a2 => exact DirectChildren_brace hb (node_any a1 (kid (by simp [Tr.subs]))) (node_any a2 (kid (by simp [Tr.subs])))
  | index b p0 p1 p2 p3 n0 n1 n2 n3 hS s1 s2 d12 hb a1 a2 => exact DirectChildren_index hb (node_any a1 (kid (by simp [Tr.subs]))) (node_any a2 (kid (by simp [Tr.subs])))
  | dot b c tx p0 p1 p2 p3 n0 n1 n2 n3 hS hc hbc s1 hb hid a1 => exact absurd rfl h16
  | error b p0 p1 n0 n1 hS s1 hb a1 => exact DirectChildren_error hb (node_any a1 (kid (by simp [Tr.subs])))
  | parens b p0 p1 p2 n0 n1 n2 hS s1 hb a1 => exact DirectChildren_parens hb (node_any a1 (kid (by simp [Tr.subs])))
  | apply b g cur p0 p1 p2 p3 p4 p5 n0 n1 n2 n3 n4 n5 cap tc a hS s1 hg hcap hr ss dd hb a1 aa => exact DirectChildren_apply hb (node_any a1 (kid (by simp [Tr.subs])))
  | array b g cur p0 p1 p2 n0 n1 n2 cap tc a hS hg hcap hr ss dd hb aa => exact (DirectChildren_Array _ _).mono fun _ _ h => none_ h
  | object b g cur p0 p1 p2 n0 n1 n2 cap tc a hS hg hcap hr ss d12 dd di hb a1 a2 => exact absurd rfl h20
theorem directF_le (t : Tr) : (directF t).length ≤ t.subs.length := by
  unfold directF
  split
  · rw [List.length_take]; omega
  · split <;> simp
theorem implDirect_any {t : Tr} (ok : Ok t) (h20 : t.k ≠ 20) (h16 : t.k ≠ 16) {S : Nat → Prop} {w : World} {u : Value} (hs : Subs w S t.subs u) :
    Calls Tryf.prog 15 #[.agg #[.int .i64 t.k, .string t.tx, .int .i64 t.op, .bool t.fl, u]] w fun e w' => ListBack w (directF t) e w' ∧ Below w.heap.size w w' := by
  obtain ⟨a, cap, rfl, hcap⟩ := hs.form
  have hB := below_alloc1 w (.cells #[.int .i64 t.k, .string t.tx, .int .i64 t.op, .bool t.fl, .slice a t.subs.length cap] 24)
  have HS := Lib.hid (hs.bel hB); clear hs
  have HO := Lib.hid ok; have H20 := Lib.hid h20; have H16 := Lib.hid h16
  have HL := Lib.hid (Nat.le_trans (directF_le t) (Nat.le_trans (ok_bnd ok).len (by decide : 6 ≤ 2199023255488)))
  clear ok h20 h16
  go_enter Tryf.func15, Tryf.ntmps15
  go_wp2_with fail
  refine (tree_any HO.out S _ _ HS.out).mono ?_
  rintro e w1 ⟨⟨y, b, rfl, hA⟩, hb1⟩
  have hB1 := hB.trans (hb1.mono hB.size)
  have HA := Lib.hid hA; clear hA hb1
  go_wp2_with fail
  refine (direct_any HA.out (ok_bnd HO.out) H20.out H16.out).mono ?_
  rintro e w2 ⟨⟨v, rfl, hr⟩, hb2⟩
  have hB2 := hB1.trans (hb2.mono hB1.size)
  have HR := Lib.hid hr; clear hr hb2 hB1
  obtain ⟨_, _, c0, a0, rfl, _⟩ := HR.out
  go_wp2_with fail
  refine (list_any HR.out HL.out).mono ?_
  rintro e w3 ⟨⟨v, rfl, hr3⟩, hb3⟩
  have hB3 := hB2.trans (hb3.mono hB2.size)
  have hw2 : w.heap.size ≤ w2.heap.size := hB2.size
  have HR3 := Lib.hid (hr3.mono (T := fun k => w.heap.size ≤ k) (fun k hk _ => Nat.le_trans hw2 hk)); clear hr3 hb3 hB2
  obtain ⟨a3, c3, rfl, _⟩ := HR3.out.form
  go_wp2
  go_ret
  exact ⟨⟨_, rfl, HR3.out⟩, hB3⟩
end Go.Proofs.YtcoimkidodghgaaFmt
