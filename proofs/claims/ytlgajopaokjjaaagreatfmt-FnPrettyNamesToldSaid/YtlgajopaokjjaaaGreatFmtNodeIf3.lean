/-
  impl.node, at conditionals. Conditions: none.
-/
import Derived.Test.YtlgajopaokjjaaaGreatFmtNodeIf
import Derived.Test.YtlgajopaokjjaaaGreatFmtOwn
import Derived.Test.YtlgajopaokjjaaaGreatFmtInfoIN
import Derived.Test.YtlgajopaokjjaaaGreatFmtBase
import Derived.Deep.RegionHeldLaw
namespace Go.Proofs.YtlgajopaokjjaaaGreatFmt
open Go.ChangeShapes Go.WideShapes Go.ChangeAt Go.RowKit Go.Joins
attribute [local go_sem] ta_Apply ta_ApplyBrace ta_Array ta_ArrayComp ta_Assert ta_Binary ta_Conditional ta_Dollar ta_Error ta_Function ta_Import ta_ImportBin ta_ImportStr ta_InSuper ta_Index ta_LiteralBoolean ta_LiteralNull ta_LiteralNumber ta_LiteralString ta_Local ta_Object ta_ObjectComp ta_Parens ta_Self ta_Slice ta_SuperIndex ta_Unary ta_Var ne_nil1 ne_nil0


set_option maxRecDepth 100000 in
set_option maxHeartbeats 16000000 in
theorem node_if3 {w : World} {b : Nat} {p0 p1 p2 p3 : Option Addr} {n0 n1 n2 n3 : Nat} {t1 t2 t3 : Tr} {y1 y2 y3 : TypeId} {b1 b2 b3 : Nat} (hb : w.heap[b]? = some (.cells #[.iface y1 (.pointer (some ⟨b1, 0, none⟩)), .iface y2 (.pointer (some ⟨b2, 0, none⟩)), .iface y3 (.pointer (some ⟨b3, 0, none⟩)), .slice p2 0 n2, .slice p3 0 n3, .slice p0 0 n0, .pointer none, .slice p1 0 n1, .pointer none, .string ByteArray.empty, .int .i64 0, .int .i64 0, .int .i64 0, .int .i64 0] 75)) (N1 : NodeAt w t1 y1 b1) (N2 : NodeAt w t2 y2 b2) (N3 : NodeAt w t3 y3 b3) : NodeAt w (.mk 10 ByteArray.empty 0 false [t1, t2, t3]) 73 b := by
  intro w0 hw
  have HB := Lib.hid ((hw.block b (heap_lt hb)).trans hb)
  have zb : b < w0.heap.size := heap_lt HB.out
  have HW := Lib.hid hw
  clear hb hw
  go_enter Tryz.func13, Tryz.ntmps13
  go_wp2_with fail
  refine (simple_no 73 (by simp) _ _).mono ?_
  rintro e w1 ⟨rfl, hb1⟩
  have HR := Lib.hid ((hb1.block w0.heap.size (by simp)).trans (heap_alloc_new w0 (.cells #[.int .i64 0, .string ByteArray.empty, .int .i64 0, .bool false, .slice none 0 0] 24)))
  have HB1 := Lib.hid ((below_alloc1 w0 (.cells #[.int .i64 0, .string ByteArray.empty, .int .i64 0, .bool false, .slice none 0 0] 24)).trans (hb1.mono (by simp)))
  have HW1 := Lib.hid (HW.out.trans (HB1.out.mono HW.out.size))
  have zr : w0.heap.size < w1.heap.size := heap_lt HR.out
  have zb1 : b < w1.heap.size := by omega
  have q0 := (World.cell?_of_block (w := w0) (w' := w1) (a := ⟨b, 0, none⟩) (HB1.out.block b zb)).trans (cell_of (j := 0) HB.out rfl)
  have q1 := (World.cell?_of_block (w := w0) (w' := w1) (a := ⟨b, 1, none⟩) (HB1.out.block b zb)).trans (cell_of (j := 1) HB.out rfl)
  have Q2 := Lib.hid ((World.cell?_of_block (w := w0) (w' := w1) (a := ⟨b, 2, none⟩) (HB1.out.block b zb)).trans (cell_of (j := 2) HB.out rfl))
  clear hb1
  go_wp2_with fail
  go_cut [8] (fun x wx => Begun w1 10 false [t1, t2] x wx)
  case first =>
    have keepq : ∀ {w' : World}, Hid (w1.cell? ⟨b, 0, none⟩ = some (.iface y1 (.pointer (some ⟨b1, 0, none⟩))) ∧ w1.cell? ⟨b, 1, none⟩ = some (.iface y2 (.pointer (some ⟨b2, 0, none⟩)))) → Stay w1 w' → w'.cell? ⟨b, 0, none⟩ = some (.iface y1 (.pointer (some ⟨b1, 0, none⟩))) ∧ w'.cell? ⟨b, 1, none⟩ = some (.iface y2 (.pointer (some ⟨b2, 0, none⟩))) := fun q h => by
      have q := q.out
      refine ⟨?_, ?_⟩
      · rw [h.2 b 0 zb1]; exact q.1
      · rw [h.2 b 1 zb1]; exact q.2
    have QQ := Lib.hid (And.intro q0 q1)
    go_region_held_law (fun w' => w'.cell? ⟨b, 0, none⟩ = some (.iface y1 (.pointer (some ⟨b1, 0, none⟩))) ∧ w'.cell? ⟨b, 1, none⟩ = some (.iface y2 (.pointer (some ⟨b2, 0, none⟩))))
      ((refine keepq QQ.out ?_; repeat (first | with_reducible exact K8.out | with_reducible exact K2.out | with_reducible exact K1.out | with_reducible exact stay_of (Below.refl _ _) | with_reducible refine stay_drew ?_ | with_reducible refine stay_alloc ?_ _ | (refine stay_set ?_ (by simp only; omega) _))))
      ((first
      | (refine step_call (by rfl) (N1 _ (HW1.out.trans ((show Stay w1 _ from (by repeat (first | with_reducible exact stay_of (Below.refl _ _) | with_reducible refine stay_drew ?_ | with_reducible refine stay_alloc ?_ _))).1.mono HW1.out.size))) ?_ ?_; (focus (go_simp; done)); rintro e w4 ⟨⟨u1, rfl, hs1⟩, hb4⟩; refine ⟨_, rfl, ?_⟩; obtain ⟨a1, c1, rfl, hc1⟩ := hs1.form; have J1 := Lib.hid (show Stay w1 w4 from stay_step (by repeat (first | with_reducible exact stay_of (Below.refl _ _) | with_reducible refine stay_drew ?_ | with_reducible refine stay_alloc ?_ _)) hb4); have K1 := Lib.hid (show Stay w1 w4 from J1.out); have HS1 := Lib.hid (hs1.mono (T := fun k => _ ≤ k ∧ k < w4.heap.size) (fun k hk hl => ⟨hk, hl⟩)); clear hs1; (try (refine cutin (T := Hid (w4.heap[w1.heap.size + 1]? = some (Obj.cells #[.int .i64 0, .string ⟨#[]⟩, .int .i64 0, .bool false, .slice none 0 0] 24))) ?_ ?_; (focus (refine Lib.hid (blk_keep hb4 ?_); (repeat (first | (refine blk_new ?_; (simp; done)) | with_reducible refine blk_drew ?_ | with_reducible refine blk_alloc ?_)); done)); intro A0_1; have A0_z1 := heap_lt A0_1.out)); have q0_1 := (World.cell?_of_block (w := w1) (w' := w4) (a := ⟨b, 0, none⟩) (K1.out.1.block b zb1)).trans q0; have q1_1 := (World.cell?_of_block (w := w1) (w' := w4) (a := ⟨b, 1, none⟩) (K1.out.1.block b zb1)).trans q1; have zbb1 : b < w4.heap.size := Nat.lt_of_lt_of_le zb1 K1.out.1.size; have zw1 := J1.out.1.size; clear hb4)
      | (refine step_call (by rfl) (N2 _ (HW1.out.trans ((show Stay w1 _ from (stay_trans K1.out (by repeat (first | with_reducible exact stay_of (Below.refl _ _) | with_reducible refine stay_drew ?_ | with_reducible refine stay_alloc ?_ _)))).1.mono HW1.out.size))) ?_ ?_; (focus (go_simp; done)); rintro e w5 ⟨⟨u2, rfl, hs2⟩, hb5⟩; refine ⟨_, rfl, ?_⟩; obtain ⟨a2, c2, rfl, hc2⟩ := hs2.form; have J2 := Lib.hid (show Stay w4 w5 from stay_step (by repeat (first | with_reducible exact stay_of (Below.refl _ _) | with_reducible refine stay_drew ?_ | with_reducible refine stay_alloc ?_ _)) hb5); have K2 := Lib.hid (show Stay w1 w5 from stay_trans K1.out J2.out); have HS2 := Lib.hid (hs2.mono (T := fun k => _ ≤ k ∧ k < w5.heap.size) (fun k hk hl => ⟨hk, hl⟩)); clear hs2; (try (refine cutin (T := Hid (w5.heap[w1.heap.size + 1]? = some (Obj.cells #[.int .i64 0, .string ⟨#[]⟩, .int .i64 0, .bool false, .slice none 0 0] 24))) ?_ ?_; (focus (refine Lib.hid (blk_keep hb5 ?_); (repeat (first | with_reducible exact A0_1.out | (refine blk_new ?_; (simp; done)) | with_reducible refine blk_drew ?_ | with_reducible refine blk_alloc ?_)); done)); intro A0_2; have A0_z2 := heap_lt A0_2.out)); (try (refine cutin (T := Hid (w5.heap[w4.heap.size]? = some (Obj.cells #[.int .i64 0, .string ⟨#[]⟩, .int .i64 0, .bool false, .slice none 0 0] 24))) ?_ ?_; (focus (refine Lib.hid (blk_keep hb5 ?_); (repeat (first | (refine blk_new ?_; (simp; done)) | with_reducible refine blk_drew ?_ | with_reducible refine blk_alloc ?_)); done)); intro A1_2; have A1_z2 := heap_lt A1_2.out)); have q0_2 := (World.cell?_of_block (w := w1) (w' := w5) (a := ⟨b, 0, none⟩) (K2.out.1.block b zb1)).trans q0; have q1_2 := (World.cell?_of_block (w := w1) (w' := w5) (a := ⟨b, 1, none⟩) (K2.out.1.block b zb1)).trans q1; have zbb2 : b < w5.heap.size := Nat.lt_of_lt_of_le zb1 K2.out.1.size; have zw2 := J2.out.1.size; clear hb5)
      | (refine step_call (by rfl) (one_any 10 0 ⟨#[]⟩ false (some ⟨w5.heap.size, 0, none⟩) 2 2 _) ?_ ?_; (focus (go_simp; done)); rintro e w8 ⟨rfl, hb8⟩; refine ⟨_, rfl, ?_⟩; have J8 := Lib.hid (show Stay w5 w8 from stay_step (by repeat (first | with_reducible exact stay_of (Below.refl _ _) | with_reducible refine stay_drew ?_ | with_reducible refine stay_alloc ?_ _)) hb8); have HROW := Lib.hid (show w8.heap[w5.heap.size]? = some (Obj.cells #[.int .i64 t1.k, .string t1.tx, .int .i64 t1.op, .bool t1.fl, .slice a1 t1.subs.length c1, .int .i64 t2.k, .string t2.tx, .int .i64 t2.op, .bool t2.fl, .slice a2 t2.subs.length c2] 24) from blk_keep hb8 (by repeat (first | (refine blk_new ?_; (simp; done)) | with_reducible refine blk_drew ?_ | with_reducible refine blk_alloc ?_))); (try (refine cutin (T := Hid (w8.heap[w1.heap.size + 1]? = some (Obj.cells #[.int .i64 0, .string ⟨#[]⟩, .int .i64 0, .bool false, .slice none 0 0] 24))) ?_ ?_; (focus (refine Lib.hid (blk_keep hb8 ?_); (repeat (first | with_reducible exact A0_2.out | (refine blk_new ?_; (simp; done)) | with_reducible refine blk_drew ?_ | with_reducible refine blk_alloc ?_)); done)); intro A0_8; have a0_e0 := cell_of (j := 0) A0_8.out rfl; have a0_e1 := cell_of (j := 1) A0_8.out rfl; have a0_e2 := cell_of (j := 2) A0_8.out rfl; have a0_e3 := cell_of (j := 3) A0_8.out rfl; have a0_e4 := cell_of (j := 4) A0_8.out rfl; have a0_f := fun i => unfrozen_of_block A0_8.out i; have a0_z := heap_lt A0_8.out)); (try (refine cutin (T := Hid (w8.heap[w4.heap.size]? = some (Obj.cells #[.int .i64 0, .string ⟨#[]⟩, .int .i64 0, .bool false, .slice none 0 0] 24))) ?_ ?_; (focus (refine Lib.hid (blk_keep hb8 ?_); (repeat (first | with_reducible exact A1_2.out | (refine blk_new ?_; (simp; done)) | with_reducible refine blk_drew ?_ | with_reducible refine blk_alloc ?_)); done)); intro A1_8; have a1_e0 := cell_of (j := 0) A1_8.out rfl; have a1_e1 := cell_of (j := 1) A1_8.out rfl; have a1_e2 := cell_of (j := 2) A1_8.out rfl; have a1_e3 := cell_of (j := 3) A1_8.out rfl; have a1_e4 := cell_of (j := 4) A1_8.out rfl; have a1_f := fun i => unfrozen_of_block A1_8.out i; have a1_z := heap_lt A1_8.out)); (try (refine cutin (T := Hid (w8.heap[w5.heap.size + 1]? = some (Obj.cells #[.int .i64 0, .string ⟨#[]⟩, .int .i64 0, .bool false, .slice none 0 0] 24))) ?_ ?_; (focus (refine Lib.hid (blk_keep hb8 ?_); (repeat (first | (refine blk_new ?_; (simp; done)) | with_reducible refine blk_drew ?_ | with_reducible refine blk_alloc ?_)); done)); intro A3_8; have a3_e0 := cell_of (j := 0) A3_8.out rfl; have a3_e1 := cell_of (j := 1) A3_8.out rfl; have a3_e2 := cell_of (j := 2) A3_8.out rfl; have a3_e3 := cell_of (j := 3) A3_8.out rfl; have a3_e4 := cell_of (j := 4) A3_8.out rfl; have a3_f := fun i => unfrozen_of_block A3_8.out i; have a3_z := heap_lt A3_8.out)); have K8 := Lib.hid (stay_trans K2.out J8.out); have zr8 := heap_lt HROW.out; have zj8 := J8.out.1.size; clear hb8)
      | (refine step_call (by rfl) (one_any 10 0 ⟨#[]⟩ false (some ⟨w5.heap.size + 1, 0, none⟩) 2 2 _) ?_ ?_; (focus (go_simp; done)); rintro e w8 ⟨rfl, hb8⟩; refine ⟨_, rfl, ?_⟩; have J8 := Lib.hid (show Stay w5 w8 from stay_step (by repeat (first | with_reducible exact stay_of (Below.refl _ _) | with_reducible refine stay_drew ?_ | with_reducible refine stay_alloc ?_ _)) hb8); have HROW := Lib.hid (show w8.heap[w5.heap.size + 1]? = some (Obj.cells #[.int .i64 t1.k, .string t1.tx, .int .i64 t1.op, .bool t1.fl, .slice a1 t1.subs.length c1, .int .i64 t2.k, .string t2.tx, .int .i64 t2.op, .bool t2.fl, .slice a2 t2.subs.length c2] 24) from blk_keep hb8 (by repeat (first | (refine blk_new ?_; (simp; done)) | with_reducible refine blk_drew ?_ | with_reducible refine blk_alloc ?_))); (try (refine cutin (T := Hid (w8.heap[w1.heap.size + 1]? = some (Obj.cells #[.int .i64 0, .string ⟨#[]⟩, .int .i64 0, .bool false, .slice none 0 0] 24))) ?_ ?_; (focus (refine Lib.hid (blk_keep hb8 ?_); (repeat (first | with_reducible exact A0_2.out | (refine blk_new ?_; (simp; done)) | with_reducible refine blk_drew ?_ | with_reducible refine blk_alloc ?_)); done)); intro A0_8; have a0_e0 := cell_of (j := 0) A0_8.out rfl; have a0_e1 := cell_of (j := 1) A0_8.out rfl; have a0_e2 := cell_of (j := 2) A0_8.out rfl; have a0_e3 := cell_of (j := 3) A0_8.out rfl; have a0_e4 := cell_of (j := 4) A0_8.out rfl; have a0_f := fun i => unfrozen_of_block A0_8.out i; have a0_z := heap_lt A0_8.out)); (try (refine cutin (T := Hid (w8.heap[w4.heap.size]? = some (Obj.cells #[.int .i64 0, .string ⟨#[]⟩, .int .i64 0, .bool false, .slice none 0 0] 24))) ?_ ?_; (focus (refine Lib.hid (blk_keep hb8 ?_); (repeat (first | with_reducible exact A1_2.out | (refine blk_new ?_; (simp; done)) | with_reducible refine blk_drew ?_ | with_reducible refine blk_alloc ?_)); done)); intro A1_8; have a1_e0 := cell_of (j := 0) A1_8.out rfl; have a1_e1 := cell_of (j := 1) A1_8.out rfl; have a1_e2 := cell_of (j := 2) A1_8.out rfl; have a1_e3 := cell_of (j := 3) A1_8.out rfl; have a1_e4 := cell_of (j := 4) A1_8.out rfl; have a1_f := fun i => unfrozen_of_block A1_8.out i; have a1_z := heap_lt A1_8.out)); (try (refine cutin (T := Hid (w8.heap[w5.heap.size]? = some (Obj.cells #[.int .i64 0, .string ⟨#[]⟩, .int .i64 0, .bool false, .slice none 0 0] 24))) ?_ ?_; (focus (refine Lib.hid (blk_keep hb8 ?_); (repeat (first | (refine blk_new ?_; (simp; done)) | with_reducible refine blk_drew ?_ | with_reducible refine blk_alloc ?_)); done)); intro A2_8; have a2_e0 := cell_of (j := 0) A2_8.out rfl; have a2_e1 := cell_of (j := 1) A2_8.out rfl; have a2_e2 := cell_of (j := 2) A2_8.out rfl; have a2_e3 := cell_of (j := 3) A2_8.out rfl; have a2_e4 := cell_of (j := 4) A2_8.out rfl; have a2_f := fun i => unfrozen_of_block A2_8.out i; have a2_z := heap_lt A2_8.out)); have K8 := Lib.hid (stay_trans K2.out J8.out); have zr8 := heap_lt HROW.out; have zj8 := J8.out.1.size; clear hb8)))
    all_goals
      go_wp2_with fail
      go_meet
      have zk2 := K2.out.1.size
      first
        | (refine begun_of (A := w1.heap.size + 1) (R := w5.heap.size) (n := 2) (by omega) (by omega) (by omega) ((heap_set5 (by omega)).trans HROW.out) (CellsT.keep (w := w8) (S := fun k => (w1.heap.size ≤ k ∧ k ≠ w1.heap.size + 1) ∧ k ≠ w5.heap.size) (fun _ h _ => h) (fun k hk _ => heap_set5 (by have := hk.1.2; omega)) ((CellsT.one (t := t1) (((HS1.out.bel J2.out.1).bel J8.out.1).mono (T := fun k => (w1.heap.size ≤ k ∧ k ≠ w1.heap.size + 1) ∧ k ≠ w5.heap.size) (fun k hk _ => by have hk1 := hk.1; have hk2 := hk.2; first | omega | (simp at hk1; omega)))).snoc (t := t2) (((HS2.out.bel J8.out.1)).mono (T := fun k => (w1.heap.size ≤ k ∧ k ≠ w1.heap.size + 1) ∧ k ≠ w5.heap.size) (fun k hk _ => by have hk1 := hk.1; have hk2 := hk.2; first | omega | (simp at hk1; omega))))) (set5_at A0_8.out) (below_set5 (K2.out.1.trans (J8.out.1.mono K2.out.1.size)) (by omega)) rfl (by decide))
        | (refine begun_of (A := w4.heap.size) (R := w5.heap.size) (n := 2) (by omega) (by omega) (by omega) ((heap_set5 (by omega)).trans HROW.out) (CellsT.keep (w := w8) (S := fun k => (w1.heap.size ≤ k ∧ k ≠ w4.heap.size) ∧ k ≠ w5.heap.size) (fun _ h _ => h) (fun k hk _ => heap_set5 (by have := hk.1.2; omega)) ((CellsT.one (t := t1) (((HS1.out.bel J2.out.1).bel J8.out.1).mono (T := fun k => (w1.heap.size ≤ k ∧ k ≠ w4.heap.size) ∧ k ≠ w5.heap.size) (fun k hk _ => by have hk1 := hk.1; have hk2 := hk.2; first | omega | (simp at hk1; omega)))).snoc (t := t2) (((HS2.out.bel J8.out.1)).mono (T := fun k => (w1.heap.size ≤ k ∧ k ≠ w4.heap.size) ∧ k ≠ w5.heap.size) (fun k hk _ => by have hk1 := hk.1; have hk2 := hk.2; first | omega | (simp at hk1; omega))))) (set5_at A1_8.out) (below_set5 (K2.out.1.trans (J8.out.1.mono K2.out.1.size)) (by omega)) rfl (by decide))
        | (refine begun_of (A := w5.heap.size + 1) (R := w5.heap.size) (n := 2) (by omega) (by omega) (by omega) ((heap_set5 (by omega)).trans HROW.out) (CellsT.keep (w := w8) (S := fun k => (w1.heap.size ≤ k ∧ k ≠ w5.heap.size + 1) ∧ k ≠ w5.heap.size) (fun _ h _ => h) (fun k hk _ => heap_set5 (by have := hk.1.2; omega)) ((CellsT.one (t := t1) (((HS1.out.bel J2.out.1).bel J8.out.1).mono (T := fun k => (w1.heap.size ≤ k ∧ k ≠ w5.heap.size + 1) ∧ k ≠ w5.heap.size) (fun k hk _ => by have hk1 := hk.1; have hk2 := hk.2; first | omega | (simp at hk1; omega)))).snoc (t := t2) (((HS2.out.bel J8.out.1)).mono (T := fun k => (w1.heap.size ≤ k ∧ k ≠ w5.heap.size + 1) ∧ k ≠ w5.heap.size) (fun k hk _ => by have hk1 := hk.1; have hk2 := hk.2; first | omega | (simp at hk1; omega))))) (set5_at A3_8.out) (below_set5 (K2.out.1.trans (J8.out.1.mono K2.out.1.size)) (by omega)) rfl (by decide))
        | (refine begun_of (A := w8.heap.size) (R := w5.heap.size) (n := 2) (by omega) (by omega) (by omega) (blk_alloc HROW.out) (CellsT.keep (w := w8) (S := fun k => (w1.heap.size ≤ k ∧ k ≠ w8.heap.size) ∧ k ≠ w5.heap.size) (fun _ h _ => h) (fun k _ hl => Below.heap_alloc _ _ _ hl) ((CellsT.one (t := t1) (((HS1.out.bel J2.out.1).bel J8.out.1).mono (T := fun k => (w1.heap.size ≤ k ∧ k ≠ w8.heap.size) ∧ k ≠ w5.heap.size) (fun k hk _ => by have hk1 := hk.1; have hk2 := hk.2; first | omega | (simp at hk1; omega)))).snoc (t := t2) (((HS2.out.bel J8.out.1)).mono (T := fun k => (w1.heap.size ≤ k ∧ k ≠ w8.heap.size) ∧ k ≠ w5.heap.size) (fun k hk _ => by have hk1 := hk.1; have hk2 := hk.2; first | omega | (simp at hk1; omega))))) (heap_alloc_new _ _) ((K2.out.1.trans (J8.out.1.mono K2.out.1.size)).alloc (by omega) _) rfl (by decide))
        | (refine begun_of (A := w1.heap.size + 1) (R := w5.heap.size + 1) (n := 2) (by omega) (by omega) (by omega) ((heap_set5 (by omega)).trans HROW.out) (CellsT.keep (w := w8) (S := fun k => (w1.heap.size ≤ k ∧ k ≠ w1.heap.size + 1) ∧ k ≠ w5.heap.size + 1) (fun _ h _ => h) (fun k hk _ => heap_set5 (by have := hk.1.2; omega)) ((CellsT.one (t := t1) (((HS1.out.bel J2.out.1).bel J8.out.1).mono (T := fun k => (w1.heap.size ≤ k ∧ k ≠ w1.heap.size + 1) ∧ k ≠ w5.heap.size + 1) (fun k hk _ => by have hk1 := hk.1; have hk2 := hk.2; first | omega | (simp at hk1; omega)))).snoc (t := t2) (((HS2.out.bel J8.out.1)).mono (T := fun k => (w1.heap.size ≤ k ∧ k ≠ w1.heap.size + 1) ∧ k ≠ w5.heap.size + 1) (fun k hk _ => by have hk1 := hk.1; have hk2 := hk.2; first | omega | (simp at hk1; omega))))) (set5_at A0_8.out) (below_set5 (K2.out.1.trans (J8.out.1.mono K2.out.1.size)) (by omega)) rfl (by decide))
        | (refine begun_of (A := w4.heap.size) (R := w5.heap.size + 1) (n := 2) (by omega) (by omega) (by omega) ((heap_set5 (by omega)).trans HROW.out) (CellsT.keep (w := w8) (S := fun k => (w1.heap.size ≤ k ∧ k ≠ w4.heap.size) ∧ k ≠ w5.heap.size + 1) (fun _ h _ => h) (fun k hk _ => heap_set5 (by have := hk.1.2; omega)) ((CellsT.one (t := t1) (((HS1.out.bel J2.out.1).bel J8.out.1).mono (T := fun k => (w1.heap.size ≤ k ∧ k ≠ w4.heap.size) ∧ k ≠ w5.heap.size + 1) (fun k hk _ => by have hk1 := hk.1; have hk2 := hk.2; first | omega | (simp at hk1; omega)))).snoc (t := t2) (((HS2.out.bel J8.out.1)).mono (T := fun k => (w1.heap.size ≤ k ∧ k ≠ w4.heap.size) ∧ k ≠ w5.heap.size + 1) (fun k hk _ => by have hk1 := hk.1; have hk2 := hk.2; first | omega | (simp at hk1; omega))))) (set5_at A1_8.out) (below_set5 (K2.out.1.trans (J8.out.1.mono K2.out.1.size)) (by omega)) rfl (by decide))
        | (refine begun_of (A := w5.heap.size) (R := w5.heap.size + 1) (n := 2) (by omega) (by omega) (by omega) ((heap_set5 (by omega)).trans HROW.out) (CellsT.keep (w := w8) (S := fun k => (w1.heap.size ≤ k ∧ k ≠ w5.heap.size) ∧ k ≠ w5.heap.size + 1) (fun _ h _ => h) (fun k hk _ => heap_set5 (by have := hk.1.2; omega)) ((CellsT.one (t := t1) (((HS1.out.bel J2.out.1).bel J8.out.1).mono (T := fun k => (w1.heap.size ≤ k ∧ k ≠ w5.heap.size) ∧ k ≠ w5.heap.size + 1) (fun k hk _ => by have hk1 := hk.1; have hk2 := hk.2; first | omega | (simp at hk1; omega)))).snoc (t := t2) (((HS2.out.bel J8.out.1)).mono (T := fun k => (w1.heap.size ≤ k ∧ k ≠ w5.heap.size) ∧ k ≠ w5.heap.size + 1) (fun k hk _ => by have hk1 := hk.1; have hk2 := hk.2; first | omega | (simp at hk1; omega))))) (set5_at A2_8.out) (below_set5 (K2.out.1.trans (J8.out.1.mono K2.out.1.size)) (by omega)) rfl (by decide))
        | (refine begun_of (A := w8.heap.size) (R := w5.heap.size + 1) (n := 2) (by omega) (by omega) (by omega) (blk_alloc HROW.out) (CellsT.keep (w := w8) (S := fun k => (w1.heap.size ≤ k ∧ k ≠ w8.heap.size) ∧ k ≠ w5.heap.size + 1) (fun _ h _ => h) (fun k _ hl => Below.heap_alloc _ _ _ hl) ((CellsT.one (t := t1) (((HS1.out.bel J2.out.1).bel J8.out.1).mono (T := fun k => (w1.heap.size ≤ k ∧ k ≠ w8.heap.size) ∧ k ≠ w5.heap.size + 1) (fun k hk _ => by have hk1 := hk.1; have hk2 := hk.2; first | omega | (simp at hk1; omega)))).snoc (t := t2) (((HS2.out.bel J8.out.1)).mono (T := fun k => (w1.heap.size ≤ k ∧ k ≠ w8.heap.size) ∧ k ≠ w5.heap.size + 1) (fun k hk _ => by have hk1 := hk.1; have hk2 := hk.2; first | omega | (simp at hk1; omega))))) (heap_alloc_new _ _) ((K2.out.1.trans (J8.out.1.mono K2.out.1.size)).alloc (by omega) _) rfl (by decide))
  case rest =>
    obtain ⟨A, v, rfl, hA, hvA, hAb, hO, hB⟩ := hcut
    obtain ⟨va, vc, rfl⟩ := hO.form
    have HAB := Lib.hid hAb; have HO := Lib.hid hO; have HBX := Lib.hid hB; have HVA := Lib.hid hvA
    have zA := heap_lt hAb
    have q2 := ((bcell hB).1 b 2 zb1).trans Q2.out
    have HRX := Lib.hid ((hB.block w0.heap.size zr).trans HR.out)
    have zb2 : b < wc.heap.size := Nat.lt_of_lt_of_le zb1 hB.size
    have zr2 : w0.heap.size < wc.heap.size := Nat.lt_of_lt_of_le zr hB.size
    have zAb : A ≠ b := by omega
    have zAr : A ≠ w0.heap.size := by omega
    have a4 := cell_of (j := 4) hAb rfl
    clear q0 q1 hO hB hvA
    have hAb : wc.heap[A]? = some (.cells #[.int .i64 10, .string ⟨#[]⟩, .int .i64 0, .bool false, .slice va 2 vc] 24) := HAB.out
    have HVA := Lib.hid (show (Value.slice va 2 vc).ownBlock ≠ some A from HVA.out)
    have HO2 := (show OwnT (fun k => w1.heap.size ≤ k ∧ k ≠ A) w1.heap.size 24 wc (.slice va 2 vc) [t1, t2] from HO.out)
    obtain ⟨xs, hown, hcs⟩ := HO2
    obtain ⟨i0, hi0, hz0, hs0, hb0⟩ := info_parts infoIN
    have HOW := Lib.hid hown; have HCS := Lib.hid hcs
    clear hown hcs
    have HAv := Lib.hid (show ∀ k, (Value.slice va 2 vc).ownBlock = some k → w1.heap.size ≤ k ∧ k < wc.heap.size from fun k hk => HOW.out.lt k hk)
    have af := fun i => unfrozen_of_block hAb i
    clear hAb
    go_upto_region 15 with fail
    have HWC := Lib.hid (HW1.out.trans ((HBX.out.mono HW1.out.size).drew))
    go_region_law ((first
      | (refine step_call (by rfl) (N3 _ HWC.out) ?_ ?_; (focus (go_simp; done)); rintro e w9 ⟨⟨u3, rfl, hs3⟩, hb9⟩; refine ⟨_, rfl, ?_⟩; obtain ⟨a3, c3, rfl, hc3⟩ := hs3.form; have HS3 := Lib.hid hs3; clear hs3; have J9 := Lib.hid ((show Below wc.heap.size wc wc.drew from (Below.refl _ _).drew).trans hb9); clear hb9; have e4 := ((bcell J9.out).1 A 4 zA).trans a4; have ef := fun i => ((bcell J9.out).2 A i zA).trans (af i); have q29 := ((bcell J9.out).1 b 2 zb2).trans q2; have zA9 : A < w9.heap.size := Nat.lt_of_lt_of_le zA J9.out.size; have zb9 : b < w9.heap.size := Nat.lt_of_lt_of_le zb2 J9.out.size; have HB10 := Lib.hid (J9.out.trans ((below_alloc1 w9 (.cells #[.int .i64 t3.k, .string t3.tx, .int .i64 t3.op, .bool t3.fl, .slice a3 t3.subs.length c3] 24)).mono J9.out.size)); have HO10 := Lib.hid (ownsRow_below HOW.out HB10.out); have HN10 := Lib.hid (nV_one HS3.out); have z9 := J9.out.size)
      | (refine step_append_lies _ rfl (.tmp 89) (.tmp 95) 22 rfl w1.heap.size 24 i0 (.agg #[.int .i64 0, .string ByteArray.empty, .int .i64 0, .bool false, .slice none 0 0]) 5 64 Tryz.underlying22 hi0 hz0 hs0 hb0 rfl (by omega) (.slice va 2 vc) 2 xs (by simp [Act.eval]) HO10.out ⟨w9.heap.size, 0, none⟩ 1 1 (nV t3 (.slice a3 t3.subs.length c3)) (by simp [Act.eval]) rfl (news5 rfl) HN10.out (by omega) (by unfold maxLen; omega) (by omega) (by simp; omega) _ rfl ?_; intro g cap1 w11 hown6 hgrow6 hat6 hlt6; have HG := Lib.hid hgrow6; have HO11 := Lib.hid hown6; have HT := Lib.hid hat6; clear hgrow6 hown6 hat6; have HA11 := Lib.hid (show w11.heap[A]? = some (.cells #[.int .i64 10, .string ⟨#[]⟩, .int .i64 0, .bool false, .slice va 2 vc] 24) from (HG.out.block A (by simp; omega) (fun e => HVA.out e.symm)).trans ((HB10.out.block A zA).trans HAB.out)); have g4 := cell_of (j := 4) HA11.out rfl; have gf := fun i => unfrozen_of_block HA11.out i)))
    all_goals
      have hR11 := (HG.out.block w0.heap.size (by simp; omega) (fun e => by have := (HAv.out w0.heap.size e.symm).1; omega)).trans ((HB10.out.block w0.heap.size zr2).trans HRX.out)
      have hS10 := (HS3.out.bel (below_alloc1 w9 (.cells #[.int .i64 t3.k, .string t3.tx, .int .i64 t3.op, .bool t3.fl, .slice a3 t3.subs.length c3] 24))).mono (T := fun k => (w1.heap.size ≤ k ∧ k ≠ A) ∧ (Value.slice va 2 vc).ownBlock ≠ some k) (fun k hk _ => ⟨⟨by have hk' := hk; simp at hk'; omega, by have hk' := hk; simp at hk'; omega⟩, fun e => by have := (HAv.out k e).2; have hk' := hk; simp at hk'; omega⟩)
      have hO11 := OwnT.push (S := fun k => w1.heap.size ≤ k ∧ k ≠ A) (HCS.out.below HB10.out) hS10 HO11.out rfl HG.out HT.out
      have hg : w1.heap.size ≤ g := (HO11.out.lt g rfl).1
      have hgA : g ≠ A := by
        rcases HT.out with h | h
        · exact fun e => HVA.out (h.trans (by rw [e]))
        · simp at h; omega
      have hB11 := (HBX.out.trans (HB10.out.mono HBX.out.size)).grown HG.out (Nat.le_trans HBX.out.size HB10.out.size) (fun k hk => (HAv.out k hk).1)
      have HO12 := Lib.hid (hO11.keep (w' := w11.setCell ⟨A, 4, none⟩ (.slice (some ⟨g, 0, none⟩) 3 cap1)) (fun k hk _ => Below.heap_setCell _ _ _ _ (by
        rcases hk with hk | hk
        · exact fun e => hk.2 (by simpa using e)
        · have e2 : g = k := by simpa [Value.ownBlock] using hk
          exact fun e => hgA (by simp only at e; omega))))
      have HB12 := Lib.hid (hB11.setCell (p := ⟨A, 4, none⟩) (by simp only; omega) (.slice (some ⟨g, 0, none⟩) 3 cap1))
      have hA12 : (w11.setCell ⟨A, 4, none⟩ (.slice (some ⟨g, 0, none⟩) 3 cap1)).heap[A]? = some (.cells #[.int .i64 10, .string ⟨#[]⟩, .int .i64 0, .bool false, .slice (some ⟨g, 0, none⟩) 3 cap1] 24) := by simp [World.setCell, Array.getElem?_modify, HA11.out]
      have HR12 := Lib.hid ((Below.heap_setCell w11 ⟨A, 4, none⟩ (.slice (some ⟨g, 0, none⟩) 3 cap1) w0.heap.size (by simp only; omega)).trans hR11)
      have a0 := cell_of (j := 0) hA12 rfl
      have a1 := cell_of (j := 1) hA12 rfl
      have a2 := cell_of (j := 2) hA12 rfl
      have a3' := cell_of (j := 3) hA12 rfl
      have a4' := cell_of (j := 4) hA12 rfl
      have r0 := cell_of (j := 0) HR12.out rfl
      have r1 := cell_of (j := 1) HR12.out rfl
      have r2 := cell_of (j := 2) HR12.out rfl
      have r3 := cell_of (j := 3) HR12.out rfl
      have r4 := cell_of (j := 4) HR12.out rfl
      have r5 := fun i => unfrozen_of_block HR12.out i
      clear hR11 hS10 hO11 hB11 hA12
      go_wp2
      have hr6 := set5_at (a := .int .i64 10) (b := .string ⟨#[]⟩) (c := .int .i64 0) (d := .bool false) (e := .slice (some ⟨g, 0, none⟩) 3 cap1) HR12.out
      have v0 := cell_of (j := 0) hr6 rfl
      have v1 := cell_of (j := 1) hr6 rfl
      have v2 := cell_of (j := 2) hr6 rfl
      have v3 := cell_of (j := 3) hr6 rfl
      have v4 := cell_of (j := 4) hr6 rfl
      have hBB := HB1.out.trans (HB12.out.mono HB1.out.size)
      have hz1 := HB1.out.size
      refine bodyPost_ret (v := .agg #[.int .i64 10, .string ⟨#[]⟩, .int .i64 0, .bool false, .slice (some ⟨g, 0, none⟩) 3 cap1]) (by simp [results, Tryz.results13, go_sem, v0, v1, v2, v3, v4]) rfl ⟨⟨_, rfl, ?_⟩, below_set5 hBB (Nat.le_refl _)⟩
      refine (HO12.out.keep (fun k hk _ => heap_set5 (g := w0.heap.size) ?_)).subs (fun k hk => ?_)
      · rcases hk with hk | hk
        · omega
        · obtain ⟨xs, ho, _⟩ := HO12.out
          have := (ho.lt k hk).1
          omega
      · rcases hk with hk | hk
        · show w0.heap.size ≤ k
          omega
        · obtain ⟨xs, ho, _⟩ := HO12.out
          have := (ho.lt k hk).1
          show w0.heap.size ≤ k
          omega

end Go.Proofs.YtlgajopaokjjaaaGreatFmt
