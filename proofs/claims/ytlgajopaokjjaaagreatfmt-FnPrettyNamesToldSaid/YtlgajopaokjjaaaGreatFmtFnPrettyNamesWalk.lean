/-
  FnPrettyNames' walk. Conditions: the lengths of the argument's lists.
-/
import Derived.Test.YtlgajopaokjjaaaGreatFmtPrettyImpl
import Derived.Test.YtlgajopaokjjaaaGreatFmtNames
import Derived.Test.YtlgajopaokjjaaaGreatFmtFits
import Derived.Test.YtlgajopaokjjaaaGreatFmtBase
import Derived.Test.YtlgajopaokjjaaaGreatFmtSameT
namespace Go.Proofs.YtlgajopaokjjaaaGreatFmt
open Go.ChangeShapes Go.WideShapes Go.ChangeAt Go.RowKit Go.Joins

theorem stay_trans' {A B C : World} (h : Stay A B) (h' : Stay B C) : Stay A C := stay_of (h.1.trans (h'.1.mono h.1.size))
set_option maxRecDepth 100000 in
set_option maxHeartbeats 8000000 in
theorem namesLaw_walk {t : Tr} {S : Nat → Prop} {w : World} {u : Value} (hs : Subs w S t.subs u) (hbd : Bnd 2199023255488 t) :
    Calls Tryz.prog 3 #[.agg #[.int .i64 t.k, .string t.tx, .int .i64 t.op, .bool t.fl, u]] w fun e w' => e = .returned (.bool true) ∧ Below w.heap.size w w' := by
  obtain ⟨a, cap, rfl, hcap⟩ := hs.form
  have hB := below_alloc1 w (.cells #[.int .i64 t.k, .string t.tx, .int .i64 t.op, .bool t.fl, .slice a t.subs.length cap] 24)
  have HS := Lib.hid (hs.bel hB); clear hs
  have HBD := Lib.hid hbd; clear hbd
  have HX := Lib.hid (heap_alloc_new w (.cells #[.int .i64 t.k, .string t.tx, .int .i64 t.op, .bool t.fl, .slice a t.subs.length cap] 24))
  go_enter Tryz.func3, Tryz.ntmps3
  go_wp2_with fail
  refine (fits6_any _ _ _ _ _ _ _ _).mono ?_
  rintro e w1 ⟨⟨r, rfl⟩, hb1⟩
  have hB1 := hB.trans (hb1.mono hB.size)
  have HX1 := Lib.hid ((hb1.block w.heap.size (by simp)).trans HX.out)
  have HS1 := Lib.hid (HS.out.bel hb1)
  clear hb1 hB
  cases r
  · go_wp2
    go_ret
    exact ⟨rfl, hB1⟩
  have x0 := cell_of (j := 0) HX1.out rfl
  have x1 := cell_of (j := 1) HX1.out rfl
  have x2 := cell_of (j := 2) HX1.out rfl
  have x3 := cell_of (j := 3) HX1.out rfl
  have x4 := cell_of (j := 4) HX1.out rfl
  have z1 := heap_lt' HX1.out
  go_wp2_with fail
  refine (lawsTree_any t HS1.out HBD.out).mono ?_
  rintro e w2 ⟨⟨u2, rfl, hs2⟩, hb2⟩
  obtain ⟨a2, c2, rfl, _⟩ := hs2.form
  have hB2 := hB1.trans (hb2.mono hB1.size)
  have HX2 := Lib.hid ((hb2.block w.heap.size z1).trans HX1.out)
  have HS2 := Lib.hid (HS1.out.bel hb2)
  have z2 := heap_lt' HX2.out
  have HD2 := Lib.hid (below_alloc1 w2 (.cells #[.int .i64 t.k, .string t.tx, .int .i64 t.op, .bool t.fl, .slice a2 t.subs.length c2] 28))
  have HT2 := Lib.hid (hs2.bel HD2.out)
  have HY2 := Lib.hid (heap_alloc_new w2 (.cells #[.int .i64 t.k, .string t.tx, .int .i64 t.op, .bool t.fl, .slice a2 t.subs.length c2] 28))
  clear x0 x1 x2 x3 x4 hb2 hs2 hB1
  go_wp2_with fail
  refine (treeS_both t HT2.out HBD.out).mono ?_
  rintro e w3 ⟨⟨r, rfl, hr⟩, hb3⟩
  have HR := Lib.hid hr; clear hr
  have HDB3 := Lib.hid (HD2.out.trans (hb3.mono HD2.out.size))
  have HB3 := Lib.hid (hB2.trans (HDB3.out.mono hB2.size))
  have HX3 := Lib.hid ((HDB3.out.block w.heap.size z2).trans HX2.out)
  have HS3 := Lib.hid (HS2.out.bel HDB3.out)
  have HT3 := Lib.hid (HT2.out.bel hb3)
  have HY3 := Lib.hid ((hb3.block w2.heap.size (by simp)).trans HY2.out)
  clear hb3 hB2
  cases r
  · go_wp2
    go_ret
    exact ⟨rfl, HB3.out⟩
  have both : Ok t ∧ Txs t := HR.out (by first | rfl | trivial)
  have ok : Ok t := both.1
  have HTXS := Lib.hid both.2; clear both
  have HOK := Lib.hid ok; clear ok
  have y0 := cell_of (j := 0) HY3.out rfl
  have zy := heap_lt' HY3.out
  have zx := heap_lt' HX3.out
  have x0 := cell_of (j := 0) HX3.out rfl
  have x1 := cell_of (j := 1) HX3.out rfl
  have x2 := cell_of (j := 2) HX3.out rfl
  have x3 := cell_of (j := 3) HX3.out rfl
  have x4 := cell_of (j := 4) HX3.out rfl
  have WT := Lib.hid (sameB_yes (rfl : (chg 2 t) = (chg 2 t)))
  have y1 := cell_of (j := 1) HY3.out rfl
  have y2 := cell_of (j := 2) HY3.out rfl
  have y3 := cell_of (j := 3) HY3.out rfl
  have y4 := cell_of (j := 4) HY3.out rfl
  have QQ := Lib.hid (And.intro x0 (And.intro x1 (And.intro x2 (And.intro x3 (And.intro x4 (And.intro y0 (And.intro y1 (And.intro y2 (And.intro y3 y4)))))))))
  have keepq : ∀ (w' : World), Stay w3 w' → w'.cell? ⟨w.heap.size, 0, none⟩ = some (.int .i64 t.k) ∧ w'.cell? ⟨w.heap.size, 1, none⟩ = some (.string t.tx) ∧ w'.cell? ⟨w.heap.size, 2, none⟩ = some (.int .i64 t.op) ∧ w'.cell? ⟨w.heap.size, 3, none⟩ = some (.bool t.fl) ∧ w'.cell? ⟨w.heap.size, 4, none⟩ = some (.slice a t.subs.length cap) ∧ w'.cell? ⟨w2.heap.size, 0, none⟩ = some (.int .i64 t.k) ∧ w'.cell? ⟨w2.heap.size, 1, none⟩ = some (.string t.tx) ∧ w'.cell? ⟨w2.heap.size, 2, none⟩ = some (.int .i64 t.op) ∧ w'.cell? ⟨w2.heap.size, 3, none⟩ = some (.bool t.fl) ∧ w'.cell? ⟨w2.heap.size, 4, none⟩ = some (.slice a2 t.subs.length c2) := fun w' h => by
    obtain ⟨k0, k1, k2, k3, k4, k5, k6, k7, k8, k9⟩ := QQ.out
    refine ⟨?_, ?_, ?_, ?_, ?_, ?_, ?_, ?_, ?_, ?_⟩
    · exact (h.2 _ _ (World.block_lt_of_cell? w3 _ k0)).trans k0
    · exact (h.2 _ _ (World.block_lt_of_cell? w3 _ k1)).trans k1
    · exact (h.2 _ _ (World.block_lt_of_cell? w3 _ k2)).trans k2
    · exact (h.2 _ _ (World.block_lt_of_cell? w3 _ k3)).trans k3
    · exact (h.2 _ _ (World.block_lt_of_cell? w3 _ k4)).trans k4
    · exact (h.2 _ _ (World.block_lt_of_cell? w3 _ k5)).trans k5
    · exact (h.2 _ _ (World.block_lt_of_cell? w3 _ k6)).trans k6
    · exact (h.2 _ _ (World.block_lt_of_cell? w3 _ k7)).trans k7
    · exact (h.2 _ _ (World.block_lt_of_cell? w3 _ k8)).trans k8
    · exact (h.2 _ _ (World.block_lt_of_cell? w3 _ k9)).trans k9
  have KEEP := Lib.hid keepq; clear keepq
  go_upto_region 6 with fail
  go_region_held_law (fun w' => w'.cell? ⟨w.heap.size, 0, none⟩ = some (.int .i64 t.k) ∧ w'.cell? ⟨w.heap.size, 1, none⟩ = some (.string t.tx) ∧ w'.cell? ⟨w.heap.size, 2, none⟩ = some (.int .i64 t.op) ∧ w'.cell? ⟨w.heap.size, 3, none⟩ = some (.bool t.fl) ∧ w'.cell? ⟨w.heap.size, 4, none⟩ = some (.slice a t.subs.length cap) ∧ w'.cell? ⟨w2.heap.size, 0, none⟩ = some (.int .i64 t.k) ∧ w'.cell? ⟨w2.heap.size, 1, none⟩ = some (.string t.tx) ∧ w'.cell? ⟨w2.heap.size, 2, none⟩ = some (.int .i64 t.op) ∧ w'.cell? ⟨w2.heap.size, 3, none⟩ = some (.bool t.fl) ∧ w'.cell? ⟨w2.heap.size, 4, none⟩ = some (.slice a2 t.subs.length c2))
    ((refine KEEP.out _ ?_; repeat (first | with_reducible exact K5.out | with_reducible exact K3.out | with_reducible exact K2.out | with_reducible exact K1.out | with_reducible exact stay_of (Below.refl _ _) | with_reducible refine stay_drew ?_ | with_reducible refine stay_alloc ?_ _)))
    (first
      | (refine step_call (by rfl) (implPretty_any HOK.out (HS3.out.bel (show Stay w3 _ from by (repeat (first |  with_reducible exact stay_of (Below.refl _ _) | with_reducible refine stay_drew ?_ | with_reducible refine stay_alloc ?_ _))).1)) ?_ ?_; (focus (go_simp; done)); rintro e w4 ⟨⟨v, rfl, hv⟩, hb4⟩; refine ⟨_, rfl, ?_⟩; obtain ⟨a4, c4, rfl, _⟩ := hv.form; have HV := Lib.hid hv; have K1 := Lib.hid (show Stay w3 w4 from stay_step (by (repeat (first | with_reducible exact stay_of (Below.refl _ _) | with_reducible refine stay_drew ?_ | with_reducible refine stay_alloc ?_ _))) hb4); clear hv hb4)
      | (refine step_call (by rfl) (lawsTree_any (chg 2 t) (HV.out.bel (show Stay w4 _ from by (repeat (first |  with_reducible exact stay_of (Below.refl _ _) | with_reducible refine stay_drew ?_ | with_reducible refine stay_alloc ?_ _))).1) (bnd_chg HBD.out)) ?_ ?_; (focus (go_simp; done)); rintro e w5 ⟨⟨v5, rfl, hv5⟩, hb5⟩; refine ⟨_, rfl, ?_⟩; obtain ⟨a5, c5, rfl, _⟩ := hv5.form; have HV5 := Lib.hid hv5; have J2 := Lib.hid (show Stay w4 w5 from stay_step (by (repeat (first | with_reducible exact stay_of (Below.refl _ _) | with_reducible refine stay_drew ?_ | with_reducible refine stay_alloc ?_ _))) hb5); have K2 := Lib.hid (stay_trans' K1.out J2.out); clear hv5 hb5)
      | (refine step_call (by rfl) (names_any t (chg 2 t) rfl HBD.out (ok_fit HOK.out) HTXS.out (HT3.out.bel (show Stay w3 _ from by (repeat (first | with_reducible exact K2.out | with_reducible exact K1.out |  with_reducible exact stay_of (Below.refl _ _) | with_reducible refine stay_drew ?_ | with_reducible refine stay_alloc ?_ _))).1)) ?_ ?_; (focus (go_simp; done)); rintro e w6 ⟨⟨v6, rfl, hv6⟩, hb6⟩; refine ⟨_, rfl, ?_⟩; obtain ⟨a6, c6, rfl, _⟩ := hv6.form; have HV6 := Lib.hid hv6; have J3 := Lib.hid (show Stay w5 w6 from stay_step (by (repeat (first | with_reducible exact stay_of (Below.refl _ _) | with_reducible refine stay_drew ?_ | with_reducible refine stay_alloc ?_ _))) hb6); have K3 := Lib.hid (stay_trans' K2.out J3.out); clear hv6 hb6)
      | (refine step_call (by rfl) (same_any (chg 2 t) (chg 2 t) _ _ _ _ _ true WT.out (HV5.out.bel (show Stay w5 _ from by (repeat (first | with_reducible exact J3.out |  with_reducible exact stay_of (Below.refl _ _) | with_reducible refine stay_drew ?_ | with_reducible refine stay_alloc ?_ _))).1) (HV6.out.bel (show Stay w6 _ from by (repeat (first |  with_reducible exact stay_of (Below.refl _ _) | with_reducible refine stay_drew ?_ | with_reducible refine stay_alloc ?_ _))).1) (bnd_chg HBD.out) (bnd_chg HBD.out)) ?_ ?_; (focus (go_simp; done)); rintro e w8 ⟨rfl, hb8⟩; refine ⟨_, rfl, ?_⟩; have J5 := Lib.hid (show Stay w6 w8 from stay_step (by (repeat (first | with_reducible exact stay_of (Below.refl _ _) | with_reducible refine stay_drew ?_ | with_reducible refine stay_alloc ?_ _))) hb8); have K5 := Lib.hid (stay_trans' K3.out J5.out); clear hb8))
  have hB6 := HB3.out.trans (K5.out.1.mono HB3.out.size)
  go_wp2
  go_ret
  exact ⟨by simp, hB6⟩
end Go.Proofs.YtlgajopaokjjaaaGreatFmt
