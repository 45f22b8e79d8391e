/-
  impl.node, at fields of objects. Conditions: none.
-/
import Derived.Test.YtlgajopaokjjaaaGreatFmtNodeIf
import Derived.Test.YtlgajopaokjjaaaGreatFmtInfoIN
import Derived.Test.YtlgajopaokjjaaaGreatFmtBase
import Derived.Deep.RegionHeldLaw
namespace Go.Proofs.YtlgajopaokjjaaaGreatFmt
open Go.ChangeShapes Go.WideShapes Go.ChangeAt Go.RowKit Go.Joins
attribute [local go_sem] ta_Apply ta_ApplyBrace ta_Array ta_ArrayComp ta_Assert ta_Binary ta_Conditional ta_Dollar ta_Error ta_Function ta_Import ta_ImportBin ta_ImportStr ta_InSuper ta_Index ta_LiteralBoolean ta_LiteralNull ta_LiteralNumber ta_LiteralString ta_Local ta_Object ta_ObjectComp ta_Parens ta_Self ta_Slice ta_SuperIndex ta_Unary ta_Var ne_nil1 ne_nil0

set_option maxRecDepth 100000 in
set_option maxHeartbeats 16000000 in
theorem value_any {w : World} {t : Tr} {y : TypeId} {b : Nat} (N : NodeAt w t y b) (w0 : World) (hw : Below w.heap.size w w0) :
    Calls Tryz.prog 33 #[.pointer none, .iface y (.pointer (some ⟨b, 0, none⟩))] w0 fun e w' => TreeBack w0 t e w' ∧ Below w0.heap.size w0 w' := by
  have HB1 := Lib.hid (below_alloc1 w0 (Obj.cells #[.int .i64 0, .string ⟨#[]⟩, .int .i64 0, .bool false, .slice none 0 0] 24))
  have HW := Lib.hid (hw.trans (HB1.out.mono hw.size)); clear hw
  have HN := Lib.hid N; clear N
  go_enter Tryz.func33, Tryz.ntmps33
  go_wp2_with fail
  refine (HN.out _ HW.out).mono ?_
  rintro e w4 ⟨⟨u4, rfl, hs4⟩, hb4⟩
  obtain ⟨a4, c4, rfl, hc4⟩ := hs4.form
  have HS4 := Lib.hid hs4; clear hs4
  have HR := Lib.hid ((hb4.block w0.heap.size (by simp)).trans (heap_alloc_new w0 (Obj.cells #[.int .i64 0, .string ⟨#[]⟩, .int .i64 0, .bool false, .slice none 0 0] 24)))
  have HB4 := Lib.hid (HB1.out.trans (hb4.mono HB1.out.size)); clear hb4
  have r0 := cell_of (j := 0) HR.out rfl
  have r1 := cell_of (j := 1) HR.out rfl
  have r2 := cell_of (j := 2) HR.out rfl
  have r3 := cell_of (j := 3) HR.out rfl
  have r4 := cell_of (j := 4) HR.out rfl
  have r5 := fun i => unfrozen_of_block HR.out i
  have zr := heap_lt HR.out
  go_wp2
  have hr6 := set5_at (a := .int .i64 t.k) (b := .string t.tx) (c := .int .i64 t.op) (d := .bool t.fl) (e := .slice a4 t.subs.length c4) HR.out
  have v0 := cell_of (j := 0) hr6 rfl
  have v1 := cell_of (j := 1) hr6 rfl
  have v2 := cell_of (j := 2) hr6 rfl
  have v3 := cell_of (j := 3) hr6 rfl
  have v4 := cell_of (j := 4) hr6 rfl
  refine bodyPost_ret (v := .agg #[.int .i64 t.k, .string t.tx, .int .i64 t.op, .bool t.fl, .slice a4 t.subs.length c4]) (by simp [results, Tryz.results33, go_sem, v0, v1, v2, v3, v4]) rfl ⟨⟨_, rfl, ?_⟩, below_set5 HB4.out (Nat.le_refl _)⟩
  exact HS4.out.keep (fun k hk _ => by have hk' := hk; simp at hk'; show w0.heap.size ≤ k; omega) (fun k hk _ => heap_set5 (by have hk' := hk; simp at hk'; omega))
set_option maxRecDepth 100000 in
set_option maxHeartbeats 16000000 in
theorem field_id {w : World} {c : Nat} {tx : ByteArray} {t2 : Tr} {y2 : TypeId} {b2 : Nat} {op : Int} {fl : Bool} {s2 s3 s4 s5 : Value} (hid : w.heap[c]? = some (.cells #[.string tx] 92)) (N2 : NodeAt w t2 y2 b2) (w0 : World) (hw : Below w.heap.size w w0) :
    Calls Tryz.prog 34 #[.agg #[.pointer none, .pointer (some ⟨c, 0, none⟩), s2, s3, s4, s5, .nilIface, .iface y2 (.pointer (some ⟨b2, 0, none⟩)), .nilIface, .pointer none, .string ByteArray.empty, .int .i64 0, .int .i64 0, .int .i64 0, .int .i64 0, .int .i64 1, .int .i64 op, .bool fl]] w0 fun e w' => TreeBack w0 (.mk 37 tx op fl [t2]) e w' ∧ Below w0.heap.size w0 w' := by
  obtain ⟨w1, hw1⟩ : ∃ w1, w0.alloc (.cells #[.pointer none, .pointer (some ⟨c, 0, none⟩), s2, s3, s4, s5, .nilIface, .iface y2 (.pointer (some ⟨b2, 0, none⟩)), .nilIface, .pointer none, .string ByteArray.empty, .int .i64 0, .int .i64 0, .int .i64 0, .int .i64 0, .int .i64 1, .int .i64 op, .bool fl] 155) = w1 := ⟨_, rfl⟩
  have HBX := Lib.hid (show w1.heap[w0.heap.size]? = some (.cells #[.pointer none, .pointer (some ⟨c, 0, none⟩), s2, s3, s4, s5, .nilIface, .iface y2 (.pointer (some ⟨b2, 0, none⟩)), .nilIface, .pointer none, .string ByteArray.empty, .int .i64 0, .int .i64 0, .int .i64 0, .int .i64 0, .int .i64 1, .int .i64 op, .bool fl] 155) from hw1 ▸ heap_alloc_new w0 _)
  have HB1 := Lib.hid (show Below w0.heap.size w0 w1 from hw1 ▸ below_alloc1 w0 _)
  have HW1 := Lib.hid (hw.trans (HB1.out.mono hw.size))
  have HE1 := Lib.hid hw1
  have hz1 : w1.heap.size = w0.heap.size + 1 := by rw [← hw1]; simp
  have HC := Lib.hid ((HW1.out.block c (heap_lt hid)).trans hid)
  have zc : c < w1.heap.size := heap_lt HC.out
  have qc := cell_of (j := 0) HC.out rfl
  clear hid
  have zb : w0.heap.size < w1.heap.size := heap_lt HBX.out
  have q0 := cell_of (j := 0) HBX.out rfl
  have q1 := cell_of (j := 1) HBX.out rfl
  have q7 := cell_of (j := 7) HBX.out rfl
  have q16 := cell_of (j := 16) HBX.out rfl
  have q17 := cell_of (j := 17) HBX.out rfl
  have q15 := cell_of (j := 15) HBX.out rfl
  have HZ1 := Lib.hid hz1
  clear hw1 hw hz1
  go_enter Tryz.func34, Tryz.ntmps34
  go_upto_region 1 with fail
  rw [HE1.out, ← HZ1.out]
  have HR1 := Lib.hid (heap_alloc_new w1 (Obj.cells #[.int .i64 0, .string ⟨#[]⟩, .int .i64 0, .bool false, .slice none 0 0] 24))
  have keepq : ∀ {w' : World}, Stay w1 w' → w'.cell? ⟨w0.heap.size, 0, none⟩ = some (.pointer none) ∧ w'.cell? ⟨w0.heap.size, 1, none⟩ = some (.pointer (some ⟨c, 0, none⟩)) ∧ w'.cell? ⟨w0.heap.size, 7, none⟩ = some (.iface y2 (.pointer (some ⟨b2, 0, none⟩))) ∧ w'.cell? ⟨w0.heap.size, 16, none⟩ = some (.int .i64 op) ∧ w'.cell? ⟨w0.heap.size, 17, none⟩ = some (.bool fl) ∧ w'.cell? ⟨c, 0, none⟩ = some (.string tx) := fun h => ⟨(h.2 _ 0 zb).trans (cell_of (j := 0) HBX.out rfl), (h.2 _ 1 zb).trans (cell_of (j := 1) HBX.out rfl), (h.2 _ 7 zb).trans (cell_of (j := 7) HBX.out rfl), (h.2 _ 16 zb).trans (cell_of (j := 16) HBX.out rfl), (h.2 _ 17 zb).trans (cell_of (j := 17) HBX.out rfl), (h.2 _ 0 zc).trans (cell_of (j := 0) HC.out rfl)⟩
  go_wp2_with fail
  go_region_held_law (fun w' => w'.cell? ⟨w0.heap.size, 0, none⟩ = some (.pointer none) ∧ w'.cell? ⟨w0.heap.size, 1, none⟩ = some (.pointer (some ⟨c, 0, none⟩)) ∧ w'.cell? ⟨w0.heap.size, 7, none⟩ = some (.iface y2 (.pointer (some ⟨b2, 0, none⟩))) ∧ w'.cell? ⟨w0.heap.size, 16, none⟩ = some (.int .i64 op) ∧ w'.cell? ⟨w0.heap.size, 17, none⟩ = some (.bool fl) ∧ w'.cell? ⟨c, 0, none⟩ = some (.string tx))
    ((refine keepq ?_; repeat (first | with_reducible exact K8.out | with_reducible exact K1.out | with_reducible exact stay_of (Below.refl _ _) | with_reducible refine stay_drew ?_ | with_reducible refine stay_alloc ?_ _ | (refine stay_set ?_ (by simp only; omega) _))))
    ((first
      | (refine step_call (by rfl) (value_any N2 _ (HW1.out.trans ((show Stay w1 _ from (by repeat (first | with_reducible exact stay_of (Below.refl _ _) | with_reducible refine stay_drew ?_ | with_reducible refine stay_alloc ?_ _))).1.mono HW1.out.size))) ?_ ?_; (focus (go_simp; done)); rintro e w4 ⟨⟨u1, rfl, hs1⟩, hb4⟩; refine ⟨_, rfl, ?_⟩; obtain ⟨a1, c1, rfl, hc1⟩ := hs1.form; have J1 := Lib.hid (show Stay w1 w4 from stay_step (by repeat (first | with_reducible exact stay_of (Below.refl _ _) | with_reducible refine stay_drew ?_ | with_reducible refine stay_alloc ?_ _)) hb4); have K1 := Lib.hid (show Stay w1 w4 from J1.out); have HS1 := Lib.hid (hs1.mono (T := fun k => w1.heap.size < k ∧ k < w4.heap.size) (fun k hk hl => ⟨by have hk' := hk; simp at hk'; omega, hl⟩)); clear hs1; have HR4 := Lib.hid ((hb4.block w1.heap.size (by simp)).trans HR1.out); have zr4 := heap_lt HR4.out; clear hb4)
      | (refine step_call (by rfl) (one_any 37 op tx fl (some ⟨w4.heap.size, 0, none⟩) 1 1 _) ?_ ?_; (focus (go_simp; done)); rintro e w8 ⟨rfl, hb8⟩; refine ⟨_, rfl, ?_⟩; have J8 := Lib.hid (show Stay w4 w8 from stay_step (by repeat (first | with_reducible exact stay_of (Below.refl _ _) | with_reducible refine stay_drew ?_ | with_reducible refine stay_alloc ?_ _)) hb8); have K8 := Lib.hid (stay_trans K1.out J8.out); have HROW := Lib.hid (show w8.heap[w4.heap.size]? = some (.cells #[.int .i64 t2.k, .string t2.tx, .int .i64 t2.op, .bool t2.fl, .slice a1 t2.subs.length c1] 24) from (hb8.block w4.heap.size (by simp)).trans (heap_alloc_new w4 _)); have HR8 := Lib.hid ((J8.out.1.block w1.heap.size zr4).trans HR4.out); have r0 := cell_of (j := 0) HR8.out rfl; have r1 := cell_of (j := 1) HR8.out rfl; have r2 := cell_of (j := 2) HR8.out rfl; have r3 := cell_of (j := 3) HR8.out rfl; have r4 := cell_of (j := 4) HR8.out rfl; have r5 := fun i => unfrozen_of_block HR8.out i; have zr8 := heap_lt HR8.out; clear hb8)))
  all_goals
    go_wp2
    have hr6 := set5_at (a := .int .i64 37) (b := .string tx) (c := .int .i64 op) (d := .bool fl) (e := .slice (some ⟨w4.heap.size, 0, none⟩) 1 1) HR8.out
    have v0 := cell_of (j := 0) hr6 rfl
    have v1 := cell_of (j := 1) hr6 rfl
    have v2 := cell_of (j := 2) hr6 rfl
    have v3 := cell_of (j := 3) hr6 rfl
    have v4 := cell_of (j := 4) hr6 rfl
    have hB8 := HB1.out.trans (K8.out.1.mono HB1.out.size)
    have hz := HZ1.out
    have zl := J8.out.1.size
    refine bodyPost_ret (v := .agg #[.int .i64 37, .string tx, .int .i64 op, .bool fl, .slice (some ⟨w4.heap.size, 0, none⟩) 1 1]) (by simp [results, Tryz.results34, go_sem, v0, v1, v2, v3, v4]) rfl ⟨⟨_, rfl, ?_⟩, below_set5 hB8 (by omega)⟩
    refine subs_block ((heap_set5 (by omega)).trans HROW.out) (CellsT.keep (w := w8) (S := fun k => w1.heap.size < k) (fun k hk _ => ?_) (fun k hk _ => heap_set5 (by omega)) (CellsT.one (t := t2) ((HS1.out.bel J8.out.1).mono (T := fun k => w1.heap.size < k) (fun k hk _ => hk.1)))) rfl rfl ?_
    · show w0.heap.size ≤ k
      omega
    · show w0.heap.size ≤ _
      omega
set_option maxRecDepth 100000 in
set_option maxHeartbeats 16000000 in
theorem field_str {w : World} {t1 t2 : Tr} {y1 y2 : TypeId} {b1 b2 : Nat} {op : Int} {fl : Bool} {s2 s3 s4 s5 : Value} (N1 : NodeAt w t1 y1 b1) (N2 : NodeAt w t2 y2 b2) (w0 : World) (hw : Below w.heap.size w w0) :
    Calls Tryz.prog 34 #[.agg #[.pointer none, .pointer none, s2, s3, s4, s5, .iface y1 (.pointer (some ⟨b1, 0, none⟩)), .iface y2 (.pointer (some ⟨b2, 0, none⟩)), .nilIface, .pointer none, .string ByteArray.empty, .int .i64 0, .int .i64 0, .int .i64 0, .int .i64 0, .int .i64 3, .int .i64 op, .bool fl]] w0 fun e w' => TreeBack w0 (.mk 39 ByteArray.empty op fl [t1, t2]) e w' ∧ Below w0.heap.size w0 w' := by
  obtain ⟨w1, hw1⟩ : ∃ w1, w0.alloc (.cells #[.pointer none, .pointer none, s2, s3, s4, s5, .iface y1 (.pointer (some ⟨b1, 0, none⟩)), .iface y2 (.pointer (some ⟨b2, 0, none⟩)), .nilIface, .pointer none, .string ByteArray.empty, .int .i64 0, .int .i64 0, .int .i64 0, .int .i64 0, .int .i64 3, .int .i64 op, .bool fl] 155) = w1 := ⟨_, rfl⟩
  have HBX := Lib.hid (show w1.heap[w0.heap.size]? = some (.cells #[.pointer none, .pointer none, s2, s3, s4, s5, .iface y1 (.pointer (some ⟨b1, 0, none⟩)), .iface y2 (.pointer (some ⟨b2, 0, none⟩)), .nilIface, .pointer none, .string ByteArray.empty, .int .i64 0, .int .i64 0, .int .i64 0, .int .i64 0, .int .i64 3, .int .i64 op, .bool fl] 155) from hw1 ▸ heap_alloc_new w0 _)
  have HB1 := Lib.hid (show Below w0.heap.size w0 w1 from hw1 ▸ below_alloc1 w0 _)
  have HW1 := Lib.hid (hw.trans (HB1.out.mono hw.size))
  have HE1 := Lib.hid hw1
  have hz1 : w1.heap.size = w0.heap.size + 1 := by rw [← hw1]; simp
  have zb : w0.heap.size < w1.heap.size := heap_lt HBX.out
  have q0 := cell_of (j := 0) HBX.out rfl
  have q6 := cell_of (j := 6) HBX.out rfl
  have q7 := cell_of (j := 7) HBX.out rfl
  have q16 := cell_of (j := 16) HBX.out rfl
  have q17 := cell_of (j := 17) HBX.out rfl
  have q15 := cell_of (j := 15) HBX.out rfl
  have HZ1 := Lib.hid hz1
  clear hw1 hw hz1
  go_enter Tryz.func34, Tryz.ntmps34
  go_upto_region 1 with fail
  rw [HE1.out, ← HZ1.out]
  have HR1 := Lib.hid (heap_alloc_new w1 (Obj.cells #[.int .i64 0, .string ⟨#[]⟩, .int .i64 0, .bool false, .slice none 0 0] 24))
  have keepq : ∀ {w' : World}, Stay w1 w' → w'.cell? ⟨w0.heap.size, 0, none⟩ = some (.pointer none) ∧ w'.cell? ⟨w0.heap.size, 6, none⟩ = some (.iface y1 (.pointer (some ⟨b1, 0, none⟩))) ∧ w'.cell? ⟨w0.heap.size, 7, none⟩ = some (.iface y2 (.pointer (some ⟨b2, 0, none⟩))) ∧ w'.cell? ⟨w0.heap.size, 16, none⟩ = some (.int .i64 op) ∧ w'.cell? ⟨w0.heap.size, 17, none⟩ = some (.bool fl) := fun h => ⟨(h.2 _ 0 zb).trans (cell_of (j := 0) HBX.out rfl), (h.2 _ 6 zb).trans (cell_of (j := 6) HBX.out rfl), (h.2 _ 7 zb).trans (cell_of (j := 7) HBX.out rfl), (h.2 _ 16 zb).trans (cell_of (j := 16) HBX.out rfl), (h.2 _ 17 zb).trans (cell_of (j := 17) HBX.out rfl)⟩
  go_wp2_with fail
  go_region_held_law (fun w' => w'.cell? ⟨w0.heap.size, 0, none⟩ = some (.pointer none) ∧ w'.cell? ⟨w0.heap.size, 6, none⟩ = some (.iface y1 (.pointer (some ⟨b1, 0, none⟩))) ∧ w'.cell? ⟨w0.heap.size, 7, none⟩ = some (.iface y2 (.pointer (some ⟨b2, 0, none⟩))) ∧ w'.cell? ⟨w0.heap.size, 16, none⟩ = some (.int .i64 op) ∧ w'.cell? ⟨w0.heap.size, 17, none⟩ = some (.bool fl))
    ((refine keepq ?_; repeat (first | with_reducible exact K8.out | with_reducible exact K2.out | with_reducible exact K1.out | with_reducible exact stay_of (Below.refl _ _) | with_reducible refine stay_drew ?_ | with_reducible refine stay_alloc ?_ _ | (refine stay_set ?_ (by simp only; omega) _))))
    ((first
      | (refine step_call (by rfl) (N1 _ (HW1.out.trans ((show Stay w1 _ from (by repeat (first | with_reducible exact stay_of (Below.refl _ _) | with_reducible refine stay_drew ?_ | with_reducible refine stay_alloc ?_ _))).1.mono HW1.out.size))) ?_ ?_; (focus (go_simp; done)); rintro e w4 ⟨⟨u1, rfl, hs1⟩, hb4⟩; refine ⟨_, rfl, ?_⟩; obtain ⟨a1, c1, rfl, hc1⟩ := hs1.form; have J1 := Lib.hid (show Stay w1 w4 from stay_step (by repeat (first | with_reducible exact stay_of (Below.refl _ _) | with_reducible refine stay_drew ?_ | with_reducible refine stay_alloc ?_ _)) hb4); have K1 := Lib.hid (show Stay w1 w4 from J1.out); have HS1 := Lib.hid (hs1.mono (T := fun k => w1.heap.size < k ∧ k < w4.heap.size) (fun k hk hl => ⟨by have hk' := hk; simp at hk'; omega, hl⟩)); clear hs1; have HR4 := Lib.hid ((hb4.block w1.heap.size (by simp)).trans HR1.out); have zr4 := heap_lt HR4.out; clear hb4)
      | (refine step_call (by rfl) (value_any N2 _ (HW1.out.trans ((show Stay w1 _ from (stay_trans K1.out (by repeat (first | with_reducible exact stay_of (Below.refl _ _) | with_reducible refine stay_drew ?_ | with_reducible refine stay_alloc ?_ _)))).1.mono HW1.out.size))) ?_ ?_; (focus (go_simp; done)); rintro e w5 ⟨⟨u2, rfl, hs2⟩, hb5⟩; refine ⟨_, rfl, ?_⟩; obtain ⟨a2, c2, rfl, hc2⟩ := hs2.form; have J2 := Lib.hid (show Stay w4 w5 from stay_step (by repeat (first | with_reducible exact stay_of (Below.refl _ _) | with_reducible refine stay_drew ?_ | with_reducible refine stay_alloc ?_ _)) hb5); have K2 := Lib.hid (show Stay w1 w5 from stay_trans K1.out J2.out); have HS2 := Lib.hid (hs2.mono (T := fun k => w1.heap.size < k ∧ k < w5.heap.size) (fun k hk hl => ⟨by have hk' := hk; first | omega | (simp at hk'; omega), hl⟩)); clear hs2; have HR5 := Lib.hid ((hb5.block w1.heap.size (by first | exact zr4 | (simp; exact zr4))).trans HR4.out); have zr5 := heap_lt HR5.out; clear hb5)
      | (refine step_call (by rfl) (one_any 39 op ⟨#[]⟩ fl (some ⟨w5.heap.size, 0, none⟩) 2 2 _) ?_ ?_; (focus (go_simp; done)); rintro e w8 ⟨rfl, hb8⟩; refine ⟨_, rfl, ?_⟩; have J8 := Lib.hid (show Stay w5 w8 from stay_step (by repeat (first | with_reducible exact stay_of (Below.refl _ _) | with_reducible refine stay_drew ?_ | with_reducible refine stay_alloc ?_ _)) hb8); have K8 := Lib.hid (stay_trans K2.out J8.out); have HROW := Lib.hid (show w8.heap[w5.heap.size]? = some (.cells #[.int .i64 t1.k, .string t1.tx, .int .i64 t1.op, .bool t1.fl, .slice a1 t1.subs.length c1, .int .i64 t2.k, .string t2.tx, .int .i64 t2.op, .bool t2.fl, .slice a2 t2.subs.length c2] 24) from (hb8.block w5.heap.size (by simp)).trans (heap_alloc_new w5 _)); have HR8 := Lib.hid ((J8.out.1.block w1.heap.size zr5).trans HR5.out); have r0 := cell_of (j := 0) HR8.out rfl; have r1 := cell_of (j := 1) HR8.out rfl; have r2 := cell_of (j := 2) HR8.out rfl; have r3 := cell_of (j := 3) HR8.out rfl; have r4 := cell_of (j := 4) HR8.out rfl; have r5 := fun i => unfrozen_of_block HR8.out i; have zr8 := heap_lt HR8.out; clear hb8)))
  all_goals
    go_wp2
    have hr6 := set5_at (a := .int .i64 39) (b := .string ⟨#[]⟩) (c := .int .i64 op) (d := .bool fl) (e := .slice (some ⟨w5.heap.size, 0, none⟩) 2 2) HR8.out
    have v0 := cell_of (j := 0) hr6 rfl
    have v1 := cell_of (j := 1) hr6 rfl
    have v2 := cell_of (j := 2) hr6 rfl
    have v3 := cell_of (j := 3) hr6 rfl
    have v4 := cell_of (j := 4) hr6 rfl
    have hB8 := HB1.out.trans (K8.out.1.mono HB1.out.size)
    have hz := HZ1.out
    have zl := J8.out.1.size
    refine bodyPost_ret (v := .agg #[.int .i64 39, .string ⟨#[]⟩, .int .i64 op, .bool fl, .slice (some ⟨w5.heap.size, 0, none⟩) 2 2]) (by simp [results, Tryz.results34, go_sem, v0, v1, v2, v3, v4]) rfl ⟨⟨_, rfl, ?_⟩, below_set5 hB8 (by omega)⟩
    refine subs_block ((heap_set5 (by omega)).trans HROW.out) (CellsT.keep (w := w8) (S := fun k => w1.heap.size < k) (fun k hk _ => ?_) (fun k hk _ => heap_set5 (by omega)) ((CellsT.one (t := t1) (((HS1.out.bel J2.out.1).bel J8.out.1).mono (T := fun k => w1.heap.size < k) (fun k hk _ => hk.1))).snoc (t := t2) ((HS2.out.bel J8.out.1).mono (T := fun k => w1.heap.size < k) (fun k hk _ => hk.1)))) rfl rfl ?_
    · show w0.heap.size ≤ k
      omega
    · show w0.heap.size ≤ _
      omega
end Go.Proofs.YtlgajopaokjjaaaGreatFmt

