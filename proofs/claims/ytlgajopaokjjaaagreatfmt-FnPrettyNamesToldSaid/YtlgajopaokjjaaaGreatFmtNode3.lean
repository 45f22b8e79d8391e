/-
  impl.node, at leaves and at kinds with a fixed number of parts. Conditions: none.
-/
import Derived.Test.YtlgajopaokjjaaaGreatFmtNode2
namespace Go.Proofs.YtlgajopaokjjaaaGreatFmt
open Go.ChangeShapes Go.WideShapes Go.ChangeAt Go.RowKit Go.Joins
attribute [local go_sem] ta_Apply ta_ApplyBrace ta_Array ta_ArrayComp ta_Assert ta_Binary ta_Conditional ta_Dollar ta_Error ta_Function ta_Import ta_ImportBin ta_ImportStr ta_InSuper ta_Index ta_LiteralBoolean ta_LiteralNull ta_LiteralNumber ta_LiteralString ta_Local ta_Object ta_ObjectComp ta_Parens ta_Self ta_Slice ta_SuperIndex ta_Unary ta_Var

set_option maxRecDepth 100000 in
set_option maxHeartbeats 4000000 in
theorem node_binary {w : World} {b : Nat} {op : Int} {p0 p1 p2 : Option Addr} {n0 n1 n2 : Nat} {t1 t2 : Tr} {y1 y2 : TypeId} {b1 b2 : Nat} (hb : w.heap[b]? = some (.cells #[.iface y2 (.pointer (some ⟨b2, 0, none⟩)), .iface y1 (.pointer (some ⟨b1, 0, none⟩)), .slice p2 0 n2, .slice p0 0 n0, .pointer none, .slice p1 0 n1, .pointer none, .string ByteArray.empty, .int .i64 0, .int .i64 0, .int .i64 0, .int .i64 0, .int .i64 op] 72)) (N1 : NodeAt w t1 y1 b1) (N2 : NodeAt w t2 y2 b2) : NodeAt w (.mk 9 ByteArray.empty op false [t1, t2]) 69 b := by
  intro w0 hw
  have HB := Lib.hid ((hw.block b (heap_lt hb)).trans hb)
  have zb : b < w0.heap.size := heap_lt HB.out
  have HW := Lib.hid hw
  clear hb hw
  go_enter Tryz.func13, Tryz.ntmps13
  go_wp2_with fail
  refine (simple_no 69 (by simp) _ _).mono ?_
  rintro e w1 ⟨rfl, hb1⟩
  have HR := Lib.hid ((hb1.block w0.heap.size (by simp)).trans (heap_alloc_new w0 (.cells #[.int .i64 0, .string ByteArray.empty, .int .i64 0, .bool false, .slice none 0 0] 24)))
  have HB1 := Lib.hid ((below_alloc1 w0 (.cells #[.int .i64 0, .string ByteArray.empty, .int .i64 0, .bool false, .slice none 0 0] 24)).trans (hb1.mono (by simp)))
  have zr : w0.heap.size < w1.heap.size := heap_lt HR.out
  have zb1 : b < w1.heap.size := by omega
  have q0 := (World.cell?_of_block (w := w0) (w' := w1) (a := ⟨b, 0, none⟩) (HB1.out.block b zb)).trans (cell_of (j := 0) HB.out rfl)
  have q1 := (World.cell?_of_block (w := w0) (w' := w1) (a := ⟨b, 1, none⟩) (HB1.out.block b zb)).trans (cell_of (j := 1) HB.out rfl)
  have q12 := (World.cell?_of_block (w := w0) (w' := w1) (a := ⟨b, 12, none⟩) (HB1.out.block b zb)).trans (cell_of (j := 12) HB.out rfl)
  have HD1 := Lib.hid ((below_alloc1 w1 (.cells #[.int .i64 0, .string ByteArray.empty, .int .i64 0, .bool false, .slice none 0 0] 24)).drew)
  have HW1 := Lib.hid (HW.out.trans ((HB1.out.mono HW.out.size).trans (HD1.out.mono (Nat.le_trans HW.out.size HB1.out.size))))
  clear hb1
  go_wp2_with fail
  go_region_law ((first
    | (refine step_call (by rfl) (N1 _ HW1.out) ?_ ?_; (focus (go_simp; done)); rintro e w4 ⟨⟨u1, rfl, hs1⟩, hb4⟩; refine ⟨_, rfl, ?_⟩; obtain ⟨a1, c1, rfl, hc1⟩ := hs1.form; have HS1 := Lib.hid hs1; clear hs1; have HD2 := Lib.hid (HD1.out.trans (hb4.mono HD1.out.size)); have HK2 := Lib.hid hb4; clear hb4; have z1 : w1.heap.size < w4.heap.size := Nat.lt_of_lt_of_le (by simp) HK2.out.size; have HW2 := Lib.hid (HW.out.trans ((HB1.out.mono HW.out.size).trans (HD2.out.mono (Nat.le_trans HW.out.size HB1.out.size)))); have q0_1 := (World.cell?_of_block (w := w1) (w' := w4) (a := ⟨b, 0, none⟩) (HD2.out.block b zb1)).trans q0; have q1_1 := (World.cell?_of_block (w := w1) (w' := w4) (a := ⟨b, 1, none⟩) (HD2.out.block b zb1)).trans q1; have q12_1 := (World.cell?_of_block (w := w1) (w' := w4) (a := ⟨b, 12, none⟩) (HD2.out.block b zb1)).trans q12; have zbb1 : b < w4.heap.size := Nat.lt_trans zb1 z1)
    | (refine step_call (by rfl) (N2 _ HW2.out) ?_ ?_; (focus (go_simp; done)); rintro e w5 ⟨⟨u2, rfl, hs2⟩, hb5⟩; refine ⟨_, rfl, ?_⟩; obtain ⟨a2, c2, rfl, hc2⟩ := hs2.form; have HS2 := Lib.hid hs2; clear hs2; have HD3 := Lib.hid (HD2.out.trans (hb5.mono HD2.out.size)); have HK3 := Lib.hid hb5; clear hb5; have z2 : w1.heap.size < w5.heap.size := Nat.lt_of_lt_of_le z1 HK3.out.size; have q0_2 := (World.cell?_of_block (w := w1) (w' := w5) (a := ⟨b, 0, none⟩) (HD3.out.block b zb1)).trans q0; have q1_2 := (World.cell?_of_block (w := w1) (w' := w5) (a := ⟨b, 1, none⟩) (HD3.out.block b zb1)).trans q1; have q12_2 := (World.cell?_of_block (w := w1) (w' := w5) (a := ⟨b, 12, none⟩) (HD3.out.block b zb1)).trans q12; have zbb2 : b < w5.heap.size := Nat.lt_trans zb1 z2)
    | (refine step_call (by rfl) (one_any 9 op ⟨#[]⟩ false (some ⟨w5.heap.size, 0, none⟩) 2 2 _) ?_ ?_; (focus (go_simp; done)); rintro e w8 ⟨rfl, hb8⟩; refine ⟨_, rfl, ?_⟩; have HZ := Lib.hid ((below_alloc1 w5 (.cells #[.int .i64 t1.k, .string t1.tx, .int .i64 t1.op, .bool t1.fl, .slice a1 t1.subs.length c1, .int .i64 t2.k, .string t2.tx, .int .i64 t2.op, .bool t2.fl, .slice a2 t2.subs.length c2] 24)).trans (hb8.mono (by simp))); have HNR := Lib.hid ((hb8.block w5.heap.size (by simp)).trans (heap_alloc_new w5 (.cells #[.int .i64 t1.k, .string t1.tx, .int .i64 t1.op, .bool t1.fl, .slice a1 t1.subs.length c1, .int .i64 t2.k, .string t2.tx, .int .i64 t2.op, .bool t2.fl, .slice a2 t2.subs.length c2] 24))); clear hb8; have HR8 := Lib.hid ((HZ.out.block w0.heap.size (by omega)).trans ((HD3.out.block w0.heap.size zr).trans HR.out)); have r0 := cell_of (j := 0) HR8.out rfl; have r1 := cell_of (j := 1) HR8.out rfl; have r2 := cell_of (j := 2) HR8.out rfl; have r3 := cell_of (j := 3) HR8.out rfl; have r4 := cell_of (j := 4) HR8.out rfl; have r5 := fun i => unfrozen_of_block HR8.out i)))
  all_goals
    go_wp2
    have hr6 := set5_at (a := .int .i64 9) (b := .string ⟨#[]⟩) (c := .int .i64 op) (d := .bool false) (e := .slice (some ⟨w5.heap.size, 0, none⟩) 2 2) HR8.out
    have v0 := cell_of (j := 0) hr6 rfl
    have v1 := cell_of (j := 1) hr6 rfl
    have v2 := cell_of (j := 2) hr6 rfl
    have v3 := cell_of (j := 3) hr6 rfl
    have v4 := cell_of (j := 4) hr6 rfl
    have hB8 := HB1.out.trans ((HD3.out.mono HB1.out.size).trans (HZ.out.mono (Nat.le_trans HB1.out.size HD3.out.size)))
    have hz1 := HB1.out.size
    have hz8 := HZ.out.size
    have hzn := heap_lt HNR.out
    refine bodyPost_ret (v := .agg #[.int .i64 9, .string ⟨#[]⟩, .int .i64 op, .bool false, .slice (some ⟨w5.heap.size, 0, none⟩) 2 2]) (by simp [results, Tryz.results13, go_sem, v0, v1, v2, v3, v4]) rfl ⟨⟨_, rfl, ?_⟩, below_set5 hB8 (Nat.le_refl _)⟩
    refine subs_block ((heap_set5 (by omega)).trans HNR.out) (CellsT.keep (w := w8) (S := fun k => w1.heap.size ≤ k) (fun k hk _ => ?_) (fun k hk _ => heap_set5 (by omega)) ((CellsT.one (t := t1) ((((HS1.out.bel HK3.out)).bel HZ.out).mono (T := fun k => w1.heap.size ≤ k) (fun k hk _ => by have hk' := hk; first | (simp at hk'; omega) | omega))).snoc (t := t2) (((HS2.out).bel HZ.out).mono (T := fun k => w1.heap.size ≤ k) (fun k hk _ => by have hk' := hk; first | (simp at hk'; omega) | omega)))) rfl rfl ?_
    · show w0.heap.size ≤ k
      omega
    · show w0.heap.size ≤ _
      omega

set_option maxRecDepth 100000 in
set_option maxHeartbeats 4000000 in
theorem node_brace {w : World} {b : Nat} {p0 p1 : Option Addr} {n0 n1 : Nat} {t1 t2 : Tr} {y1 y2 : TypeId} {b1 b2 : Nat} (hb : w.heap[b]? = some (.cells #[.iface y1 (.pointer (some ⟨b1, 0, none⟩)), .iface y2 (.pointer (some ⟨b2, 0, none⟩)), .slice p0 0 n0, .pointer none, .slice p1 0 n1, .pointer none, .string ByteArray.empty, .int .i64 0, .int .i64 0, .int .i64 0, .int .i64 0] 87)) (N1 : NodeAt w t1 y1 b1) (N2 : NodeAt w t2 y2 b2) : NodeAt w (.mk 14 ByteArray.empty 0 false [t1, t2]) 85 b := by
  intro w0 hw
  have HB := Lib.hid ((hw.block b (heap_lt hb)).trans hb)
  have zb : b < w0.heap.size := heap_lt HB.out
  have HW := Lib.hid hw
  clear hb hw
  go_enter Tryz.func13, Tryz.ntmps13
  go_wp2_with fail
  refine (simple_no 85 (by simp) _ _).mono ?_
  rintro e w1 ⟨rfl, hb1⟩
  have HR := Lib.hid ((hb1.block w0.heap.size (by simp)).trans (heap_alloc_new w0 (.cells #[.int .i64 0, .string ByteArray.empty, .int .i64 0, .bool false, .slice none 0 0] 24)))
  have HB1 := Lib.hid ((below_alloc1 w0 (.cells #[.int .i64 0, .string ByteArray.empty, .int .i64 0, .bool false, .slice none 0 0] 24)).trans (hb1.mono (by simp)))
  have zr : w0.heap.size < w1.heap.size := heap_lt HR.out
  have zb1 : b < w1.heap.size := by omega
  have q0 := (World.cell?_of_block (w := w0) (w' := w1) (a := ⟨b, 0, none⟩) (HB1.out.block b zb)).trans (cell_of (j := 0) HB.out rfl)
  have q1 := (World.cell?_of_block (w := w0) (w' := w1) (a := ⟨b, 1, none⟩) (HB1.out.block b zb)).trans (cell_of (j := 1) HB.out rfl)
  have HD1 := Lib.hid ((below_alloc1 w1 (.cells #[.int .i64 0, .string ByteArray.empty, .int .i64 0, .bool false, .slice none 0 0] 24)).drew)
  have HW1 := Lib.hid (HW.out.trans ((HB1.out.mono HW.out.size).trans (HD1.out.mono (Nat.le_trans HW.out.size HB1.out.size))))
  clear hb1
  go_wp2_with fail
  go_region_law ((first
    | (refine step_call (by rfl) (N1 _ HW1.out) ?_ ?_; (focus (go_simp; done)); rintro e w4 ⟨⟨u1, rfl, hs1⟩, hb4⟩; refine ⟨_, rfl, ?_⟩; obtain ⟨a1, c1, rfl, hc1⟩ := hs1.form; have HS1 := Lib.hid hs1; clear hs1; have HD2 := Lib.hid (HD1.out.trans (hb4.mono HD1.out.size)); have HK2 := Lib.hid hb4; clear hb4; have z1 : w1.heap.size < w4.heap.size := Nat.lt_of_lt_of_le (by simp) HK2.out.size; have HW2 := Lib.hid (HW.out.trans ((HB1.out.mono HW.out.size).trans (HD2.out.mono (Nat.le_trans HW.out.size HB1.out.size)))); have q0_1 := (World.cell?_of_block (w := w1) (w' := w4) (a := ⟨b, 0, none⟩) (HD2.out.block b zb1)).trans q0; have q1_1 := (World.cell?_of_block (w := w1) (w' := w4) (a := ⟨b, 1, none⟩) (HD2.out.block b zb1)).trans q1; have zbb1 : b < w4.heap.size := Nat.lt_trans zb1 z1)
    | (refine step_call (by rfl) (N2 _ HW2.out) ?_ ?_; (focus (go_simp; done)); rintro e w5 ⟨⟨u2, rfl, hs2⟩, hb5⟩; refine ⟨_, rfl, ?_⟩; obtain ⟨a2, c2, rfl, hc2⟩ := hs2.form; have HS2 := Lib.hid hs2; clear hs2; have HD3 := Lib.hid (HD2.out.trans (hb5.mono HD2.out.size)); have HK3 := Lib.hid hb5; clear hb5; have z2 : w1.heap.size < w5.heap.size := Nat.lt_of_lt_of_le z1 HK3.out.size; have q0_2 := (World.cell?_of_block (w := w1) (w' := w5) (a := ⟨b, 0, none⟩) (HD3.out.block b zb1)).trans q0; have q1_2 := (World.cell?_of_block (w := w1) (w' := w5) (a := ⟨b, 1, none⟩) (HD3.out.block b zb1)).trans q1; have zbb2 : b < w5.heap.size := Nat.lt_trans zb1 z2)
    | (refine step_call (by rfl) (one_any 14 0 ⟨#[]⟩ false (some ⟨w5.heap.size, 0, none⟩) 2 2 _) ?_ ?_; (focus (go_simp; done)); rintro e w8 ⟨rfl, hb8⟩; refine ⟨_, rfl, ?_⟩; have HZ := Lib.hid ((below_alloc1 w5 (.cells #[.int .i64 t1.k, .string t1.tx, .int .i64 t1.op, .bool t1.fl, .slice a1 t1.subs.length c1, .int .i64 t2.k, .string t2.tx, .int .i64 t2.op, .bool t2.fl, .slice a2 t2.subs.length c2] 24)).trans (hb8.mono (by simp))); have HNR := Lib.hid ((hb8.block w5.heap.size (by simp)).trans (heap_alloc_new w5 (.cells #[.int .i64 t1.k, .string t1.tx, .int .i64 t1.op, .bool t1.fl, .slice a1 t1.subs.length c1, .int .i64 t2.k, .string t2.tx, .int .i64 t2.op, .bool t2.fl, .slice a2 t2.subs.length c2] 24))); clear hb8; have HR8 := Lib.hid ((HZ.out.block w0.heap.size (by omega)).trans ((HD3.out.block w0.heap.size zr).trans HR.out)); have r0 := cell_of (j := 0) HR8.out rfl; have r1 := cell_of (j := 1) HR8.out rfl; have r2 := cell_of (j := 2) HR8.out rfl; have r3 := cell_of (j := 3) HR8.out rfl; have r4 := cell_of (j := 4) HR8.out rfl; have r5 := fun i => unfrozen_of_block HR8.out i)))
  all_goals
    go_wp2
    have hr6 := set5_at (a := .int .i64 14) (b := .string ⟨#[]⟩) (c := .int .i64 0) (d := .bool false) (e := .slice (some ⟨w5.heap.size, 0, none⟩) 2 2) HR8.out
    have v0 := cell_of (j := 0) hr6 rfl
    have v1 := cell_of (j := 1) hr6 rfl
    have v2 := cell_of (j := 2) hr6 rfl
    have v3 := cell_of (j := 3) hr6 rfl
    have v4 := cell_of (j := 4) hr6 rfl
    have hB8 := HB1.out.trans ((HD3.out.mono HB1.out.size).trans (HZ.out.mono (Nat.le_trans HB1.out.size HD3.out.size)))
    have hz1 := HB1.out.size
    have hz8 := HZ.out.size
    have hzn := heap_lt HNR.out
    refine bodyPost_ret (v := .agg #[.int .i64 14, .string ⟨#[]⟩, .int .i64 0, .bool false, .slice (some ⟨w5.heap.size, 0, none⟩) 2 2]) (by simp [results, Tryz.results13, go_sem, v0, v1, v2, v3, v4]) rfl ⟨⟨_, rfl, ?_⟩, below_set5 hB8 (Nat.le_refl _)⟩
    refine subs_block ((heap_set5 (by omega)).trans HNR.out) (CellsT.keep (w := w8) (S := fun k => w1.heap.size ≤ k) (fun k hk _ => ?_) (fun k hk _ => heap_set5 (by omega)) ((CellsT.one (t := t1) ((((HS1.out.bel HK3.out)).bel HZ.out).mono (T := fun k => w1.heap.size ≤ k) (fun k hk _ => by have hk' := hk; first | (simp at hk'; omega) | omega))).snoc (t := t2) (((HS2.out).bel HZ.out).mono (T := fun k => w1.heap.size ≤ k) (fun k hk _ => by have hk' := hk; first | (simp at hk'; omega) | omega)))) rfl rfl ?_
    · show w0.heap.size ≤ k
      omega
    · show w0.heap.size ≤ _
      omega

end Go.Proofs.YtlgajopaokjjaaaGreatFmt
