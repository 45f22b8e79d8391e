/-
  impl.Children: what is right below a node. Conditions: spec.Tree's; no object.
-/
import Derived.Test.YthppionkcfkafaaFmtKids
namespace Go.Proofs.YthppionkcfkafaaFmt
open Go.ChangeShapes Go.WideShapes Go.ChangeAt Go.RowKit Go.Joins

set_option maxRecDepth 100000 in
set_option maxHeartbeats 4000000 in
theorem implChildren_any {t : Tr} (ok : Ok t) (h20 : t.k ≠ 20) (h16 : t.k ≠ 16) {S : Nat → Prop} {w : World} {u : Value} (hs : Subs w S t.subs u) :
    Calls Tryf.prog 11 #[.agg #[.int .i64 t.k, .string t.tx, .int .i64 t.op, .bool t.fl, u]] w fun e w' => ListBack w (t.subs.map unarg) e w' ∧ Below w.heap.size w w' := by
  obtain ⟨a, cap, rfl, hcap⟩ := hs.form
  have hB := below_alloc1 w (.cells #[.int .i64 t.k, .string t.tx, .int .i64 t.op, .bool t.fl, .slice a t.subs.length cap] 24)
  have HS := Lib.hid (hs.bel hB); clear hs
  have HO := Lib.hid ok; have H20 := Lib.hid h20; have H16 := Lib.hid h16
  obtain ⟨ds, hds⟩ : ∃ ds, t.subs.map unarg = ds := ⟨_, rfl⟩
  have HK := Lib.hid ((kids_split ok h20).trans hds)
  have HL := Lib.hid (show ds.length ≤ 2199023255488 by rw [← hds, List.length_map]; have := (ok_bnd ok).len; omega)
  rw [hds]
  clear hds
  clear ok h20 h16
  go_enter Tryf.func11, Tryf.ntmps11
  go_wp2_with fail
  refine (tree_any HO.out S _ _ HS.out).mono ?_
  rintro e w1 ⟨⟨y, b, rfl, hA⟩, hb1⟩
  have hB1 := hB.trans (hb1.mono hB.size)
  have HA := Lib.hid hA; clear hA hb1
  go_wp2_with fail
  refine (children_any HA.out (ok_bnd HO.out) H20.out H16.out).mono ?_
  rintro e w2 ⟨⟨v, rfl, hr⟩, hb2⟩
  have hB2 := hB1.trans (hb2.mono hB1.size)
  rw [HK.out] at hr
  have HR := Lib.hid hr; clear hr hb2 hB1
  obtain ⟨_, _, c0, a0, rfl, _⟩ := HR.out
  go_wp2_with fail
  refine (list_any HR.out HL.out).mono ?_
  rintro e w3 ⟨⟨v, rfl, hr3⟩, hb3⟩
  have hB3 := hB2.trans (hb3.mono hB2.size)
  have hw2 : w.heap.size ≤ w2.heap.size := hB2.size
  have HR3 := Lib.hid (hr3.mono (T := fun k => w.heap.size ≤ k) (fun k hk _ => Nat.le_trans hw2 hk)); clear hr3 hb3 hB2
  obtain ⟨a3, c3, rfl, _⟩ := HR3.out.form
  go_wp2
  go_ret
  exact ⟨⟨_, rfl, HR3.out⟩, hB3⟩
end Go.Proofs.YthppionkcfkafaaFmt
