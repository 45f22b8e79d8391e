/-
  impl.node, at calls. Conditions: none.
-/
import Derived.Test.YtlgajopaokjjaaaGreatFmtNodeIf
import Derived.Test.YtlgajopaokjjaaaGreatFmtInfoIN
import Derived.Test.YtlgajopaokjjaaaGreatFmtBase
import Derived.Deep.RegionHeldLaw
namespace Go.Proofs.YtlgajopaokjjaaaGreatFmt
open Go.ChangeShapes Go.WideShapes Go.ChangeAt Go.RowKit Go.Joins
attribute [local go_sem] ta_Apply ta_ApplyBrace ta_Array ta_ArrayComp ta_Assert ta_Binary ta_Conditional ta_Dollar ta_Error ta_Function ta_Import ta_ImportBin ta_ImportStr ta_InSuper ta_Index ta_LiteralBoolean ta_LiteralNull ta_LiteralNumber ta_LiteralString ta_Local ta_Object ta_ObjectComp ta_Parens ta_Self ta_Slice ta_SuperIndex ta_Unary ta_Var ne_nil1 ne_nil0

def argT (t : Tr) : Tr := .mk 32 ByteArray.empty 0 false [t]
set_option maxRecDepth 100000 in
set_option maxHeartbeats 16000000 in
theorem apply_any {w : World} {b g : Nat} {cur : Array Value} {p0 p1 p2 p3 p4 p5 : Option Addr} {n0 n1 n2 n3 n4 n5 cap : Nat} {tc : Bool} {a : Option Addr} {t1 : Tr} {y1 : TypeId} {b1 : Nat} {l : List Tr} {ys bs : Nat → Nat} {ps : Nat → Option Addr} {ns : Nat → Nat}
    (hg : 0 < l.length → a = some ⟨g, 0, none⟩ ∧ w.heap[g]? = some (.cells cur 84))
    (hr : ∀ i, i < l.length → cur[i * 2]? = some (.iface (ys i) (.pointer (some ⟨bs i, 0, none⟩))) ∧ cur[i * 2 + 1]? = some (.slice (ps i) 0 (ns i)))
    (hb : w.heap[b]? = some (.cells #[.iface y1 (.pointer (some ⟨b1, 0, none⟩)), .slice p2 0 n2, .slice a l.length cap, .slice p3 0 n3, .slice p4 0 n4, .slice p5 0 n5, .slice p0 0 n0, .pointer none, .slice p1 0 n1, .pointer none, .string ByteArray.empty, .int .i64 0, .int .i64 0, .int .i64 0, .int .i64 0, .bool tc, .bool false] 82)) (hl : l.length ≤ 5) (N1 : NodeAt w t1 y1 b1) (NN : ∀ i t, l[i]? = some t → NodeAt w t (ys i) (bs i)) (w0 : World) (hw : Below w.heap.size w w0) :
    Calls Tryz.prog 25 #[.pointer (some ⟨b, 0, none⟩)] w0 fun e w' => TreeBack w0 (.mk 13 ByteArray.empty 0 false (t1 :: l.map argT)) e w' ∧ Below w0.heap.size w0 w' := by
  obtain ⟨i0, hi0, hz0, hs0, hb0⟩ := info_parts infoIN
  have HB := Lib.hid ((hw.block b (heap_lt hb)).trans hb)
  have zb : b < w0.heap.size := heap_lt HB.out
  have HW := Lib.hid hw
  have HG := Lib.hid (fun h0 => (⟨(hg h0).1, (hw.block g (heap_lt (hg h0).2)).trans (hg h0).2⟩ : a = some ⟨g, 0, none⟩ ∧ w0.heap[g]? = some (.cells cur 84)))
  have HRR := Lib.hid hr; have HNN := Lib.hid NN
  clear hb hw hg hr NN
  obtain ⟨w1, hw1⟩ : ∃ w1, w0.alloc (.cells #[.int .i64 0, .string ⟨#[]⟩, .int .i64 0, .bool false, .slice none 0 0] 24) = w1 := ⟨_, rfl⟩
  have HR := Lib.hid (show w1.heap[w0.heap.size]? = some (.cells #[.int .i64 0, .string ⟨#[]⟩, .int .i64 0, .bool false, .slice none 0 0] 24) from hw1 ▸ heap_alloc_new w0 _)
  have HB1 := Lib.hid (show Below w0.heap.size w0 w1 from hw1 ▸ below_alloc1 w0 _)
  have HW1 := Lib.hid (HW.out.trans (HB1.out.mono HW.out.size))
  have HE1 := Lib.hid hw1
  have zr : w0.heap.size < w1.heap.size := heap_lt HR.out
  have zb1 : b < w1.heap.size := by omega
  have q0 := (World.cell?_of_block (w := w0) (w' := w1) (a := ⟨b, 0, none⟩) (HB1.out.block b zb)).trans (cell_of (j := 0) HB.out rfl)
  have q16 := (World.cell?_of_block (w := w0) (w' := w1) (a := ⟨b, 16, none⟩) (HB1.out.block b zb)).trans (cell_of (j := 16) HB.out rfl)
  have Q2 := Lib.hid ((World.cell?_of_block (w := w0) (w' := w1) (a := ⟨b, 2, none⟩) (HB1.out.block b zb)).trans (cell_of (j := 2) HB.out rfl))
  have Q3 := Lib.hid ((World.cell?_of_block (w := w0) (w' := w1) (a := ⟨b, 3, none⟩) (HB1.out.block b zb)).trans (cell_of (j := 3) HB.out rfl))
  clear hw1
  go_enter Tryz.func25, Tryz.ntmps25
  go_upto_region 1 with fail
  rw [HE1.out]
  go_cut [3] (fun x wx => Begun w1 13 false [t1] x wx)
  case first =>
    have keepq : ∀ {w' : World}, Hid (w1.cell? ⟨b, 0, none⟩ = some (.iface y1 (.pointer (some ⟨b1, 0, none⟩))) ∧ w1.cell? ⟨b, 16, none⟩ = some (.bool false)) → Stay w1 w' → w'.cell? ⟨b, 0, none⟩ = some (.iface y1 (.pointer (some ⟨b1, 0, none⟩))) ∧ w'.cell? ⟨b, 16, none⟩ = some (.bool false) := fun q h => by
      have q := q.out
      refine ⟨?_, ?_⟩
      · rw [h.2 b 0 zb1]; exact q.1
      · rw [h.2 b 16 zb1]; exact q.2
    have QQ := Lib.hid (And.intro q0 q16)
    go_region_held_law (fun w' => w'.cell? ⟨b, 0, none⟩ = some (.iface y1 (.pointer (some ⟨b1, 0, none⟩))) ∧ w'.cell? ⟨b, 16, none⟩ = some (.bool false))
      ((refine keepq QQ.out ?_; repeat (first | with_reducible exact K8.out | with_reducible exact K1.out | with_reducible exact stay_of (Below.refl _ _) | with_reducible refine stay_drew ?_ | with_reducible refine stay_alloc ?_ _ | (refine stay_set ?_ (by simp only; omega) _))))
      ((first
      | (refine step_call (by rfl) (N1 _ (HW1.out.trans ((show Stay w1 _ from (by repeat (first | with_reducible exact stay_of (Below.refl _ _) | with_reducible refine stay_drew ?_ | with_reducible refine stay_alloc ?_ _))).1.mono HW1.out.size))) ?_ ?_; (focus (go_simp; done)); rintro e w4 ⟨⟨u1, rfl, hs1⟩, hb4⟩; refine ⟨_, rfl, ?_⟩; obtain ⟨a1, c1, rfl, hc1⟩ := hs1.form; have J1 := Lib.hid (show Stay w1 w4 from stay_step (by repeat (first | with_reducible exact stay_of (Below.refl _ _) | with_reducible refine stay_drew ?_ | with_reducible refine stay_alloc ?_ _)) hb4); have K1 := Lib.hid (show Stay w1 w4 from J1.out); have HS1 := Lib.hid (hs1.mono (T := fun k => _ ≤ k ∧ k < w4.heap.size) (fun k hk hl => ⟨hk, hl⟩)); clear hs1; (try (refine cutin (T := Hid (w4.heap[w1.heap.size]? = some (Obj.cells #[.int .i64 0, .string ⟨#[]⟩, .int .i64 0, .bool false, .slice none 0 0] 24))) ?_ ?_; (focus (refine Lib.hid (blk_keep hb4 ?_); (repeat (first | (refine blk_new ?_; (simp; done)) | with_reducible refine blk_drew ?_ | with_reducible refine blk_alloc ?_)); done)); intro A0_1; have A0_z1 := heap_lt A0_1.out)); have q0_1 := (World.cell?_of_block (w := w1) (w' := w4) (a := ⟨b, 0, none⟩) (K1.out.1.block b zb1)).trans q0; have q16_1 := (World.cell?_of_block (w := w1) (w' := w4) (a := ⟨b, 16, none⟩) (K1.out.1.block b zb1)).trans q16; have zbb1 : b < w4.heap.size := Nat.lt_of_lt_of_le zb1 K1.out.1.size; have zw1 := J1.out.1.size; clear hb4)
      | (refine step_call (by rfl) (one_any 13 0 ⟨#[]⟩ false (some ⟨w4.heap.size, 0, none⟩) 1 1 _) ?_ ?_; (focus (go_simp; done)); rintro e w8 ⟨rfl, hb8⟩; refine ⟨_, rfl, ?_⟩; have J8 := Lib.hid (show Stay w4 w8 from stay_step (by repeat (first | with_reducible exact stay_of (Below.refl _ _) | with_reducible refine stay_drew ?_ | with_reducible refine stay_alloc ?_ _)) hb8); have HROW := Lib.hid (show w8.heap[w4.heap.size]? = some (Obj.cells #[.int .i64 t1.k, .string t1.tx, .int .i64 t1.op, .bool t1.fl, .slice a1 t1.subs.length c1] 24) from blk_keep hb8 (by repeat (first | (refine blk_new ?_; (simp; done)) | with_reducible refine blk_drew ?_ | with_reducible refine blk_alloc ?_))); (try (refine cutin (T := Hid (w8.heap[w1.heap.size]? = some (Obj.cells #[.int .i64 0, .string ⟨#[]⟩, .int .i64 0, .bool false, .slice none 0 0] 24))) ?_ ?_; (focus (refine Lib.hid (blk_keep hb8 ?_); (repeat (first | with_reducible exact A0_1.out | (refine blk_new ?_; (simp; done)) | with_reducible refine blk_drew ?_ | with_reducible refine blk_alloc ?_)); done)); intro A0_8; have a0_e0 := cell_of (j := 0) A0_8.out rfl; have a0_e1 := cell_of (j := 1) A0_8.out rfl; have a0_e2 := cell_of (j := 2) A0_8.out rfl; have a0_e3 := cell_of (j := 3) A0_8.out rfl; have a0_e4 := cell_of (j := 4) A0_8.out rfl; have a0_f := fun i => unfrozen_of_block A0_8.out i; have a0_z := heap_lt A0_8.out)); (try (refine cutin (T := Hid (w8.heap[w4.heap.size + 1]? = some (Obj.cells #[.int .i64 0, .string ⟨#[]⟩, .int .i64 0, .bool false, .slice none 0 0] 24))) ?_ ?_; (focus (refine Lib.hid (blk_keep hb8 ?_); (repeat (first | (refine blk_new ?_; (simp; done)) | with_reducible refine blk_drew ?_ | with_reducible refine blk_alloc ?_)); done)); intro A2_8; have a2_e0 := cell_of (j := 0) A2_8.out rfl; have a2_e1 := cell_of (j := 1) A2_8.out rfl; have a2_e2 := cell_of (j := 2) A2_8.out rfl; have a2_e3 := cell_of (j := 3) A2_8.out rfl; have a2_e4 := cell_of (j := 4) A2_8.out rfl; have a2_f := fun i => unfrozen_of_block A2_8.out i; have a2_z := heap_lt A2_8.out)); have K8 := Lib.hid (stay_trans K1.out J8.out); have zr8 := heap_lt HROW.out; have zj8 := J8.out.1.size; clear hb8)
      | (refine step_call (by rfl) (one_any 13 0 ⟨#[]⟩ false (some ⟨w4.heap.size + 1, 0, none⟩) 1 1 _) ?_ ?_; (focus (go_simp; done)); rintro e w8 ⟨rfl, hb8⟩; refine ⟨_, rfl, ?_⟩; have J8 := Lib.hid (show Stay w4 w8 from stay_step (by repeat (first | with_reducible exact stay_of (Below.refl _ _) | with_reducible refine stay_drew ?_ | with_reducible refine stay_alloc ?_ _)) hb8); have HROW := Lib.hid (show w8.heap[w4.heap.size + 1]? = some (Obj.cells #[.int .i64 t1.k, .string t1.tx, .int .i64 t1.op, .bool t1.fl, .slice a1 t1.subs.length c1] 24) from blk_keep hb8 (by repeat (first | (refine blk_new ?_; (simp; done)) | with_reducible refine blk_drew ?_ | with_reducible refine blk_alloc ?_))); (try (refine cutin (T := Hid (w8.heap[w1.heap.size]? = some (Obj.cells #[.int .i64 0, .string ⟨#[]⟩, .int .i64 0, .bool false, .slice none 0 0] 24))) ?_ ?_; (focus (refine Lib.hid (blk_keep hb8 ?_); (repeat (first | with_reducible exact A0_1.out | (refine blk_new ?_; (simp; done)) | with_reducible refine blk_drew ?_ | with_reducible refine blk_alloc ?_)); done)); intro A0_8; have a0_e0 := cell_of (j := 0) A0_8.out rfl; have a0_e1 := cell_of (j := 1) A0_8.out rfl; have a0_e2 := cell_of (j := 2) A0_8.out rfl; have a0_e3 := cell_of (j := 3) A0_8.out rfl; have a0_e4 := cell_of (j := 4) A0_8.out rfl; have a0_f := fun i => unfrozen_of_block A0_8.out i; have a0_z := heap_lt A0_8.out)); (try (refine cutin (T := Hid (w8.heap[w4.heap.size]? = some (Obj.cells #[.int .i64 0, .string ⟨#[]⟩, .int .i64 0, .bool false, .slice none 0 0] 24))) ?_ ?_; (focus (refine Lib.hid (blk_keep hb8 ?_); (repeat (first | (refine blk_new ?_; (simp; done)) | with_reducible refine blk_drew ?_ | with_reducible refine blk_alloc ?_)); done)); intro A1_8; have a1_e0 := cell_of (j := 0) A1_8.out rfl; have a1_e1 := cell_of (j := 1) A1_8.out rfl; have a1_e2 := cell_of (j := 2) A1_8.out rfl; have a1_e3 := cell_of (j := 3) A1_8.out rfl; have a1_e4 := cell_of (j := 4) A1_8.out rfl; have a1_f := fun i => unfrozen_of_block A1_8.out i; have a1_z := heap_lt A1_8.out)); have K8 := Lib.hid (stay_trans K1.out J8.out); have zr8 := heap_lt HROW.out; have zj8 := J8.out.1.size; clear hb8)))
    all_goals
      go_wp2_with fail
      go_meet
      have zk1 := K1.out.1.size
      first
        | (refine begun_of (A := w1.heap.size) (R := w4.heap.size) (n := 1) (by omega) (by omega) (by omega) ((heap_set5 (by omega)).trans HROW.out) (CellsT.keep (w := w8) (S := fun k => (w1.heap.size ≤ k ∧ k ≠ w1.heap.size) ∧ k ≠ w4.heap.size) (fun _ h _ => h) (fun k hk _ => heap_set5 (by have := hk.1.2; omega)) (CellsT.one (t := t1) ((HS1.out.bel J8.out.1).mono (T := fun k => (w1.heap.size ≤ k ∧ k ≠ w1.heap.size) ∧ k ≠ w4.heap.size) (fun k hk _ => by have hk1 := hk.1; have hk2 := hk.2; first | omega | (simp at hk1; omega))))) (set5_at A0_8.out) (below_set5 (K1.out.1.trans (J8.out.1.mono K1.out.1.size)) (by omega)) rfl (by decide))
        | (refine begun_of (A := w4.heap.size + 1) (R := w4.heap.size) (n := 1) (by omega) (by omega) (by omega) ((heap_set5 (by omega)).trans HROW.out) (CellsT.keep (w := w8) (S := fun k => (w1.heap.size ≤ k ∧ k ≠ w4.heap.size + 1) ∧ k ≠ w4.heap.size) (fun _ h _ => h) (fun k hk _ => heap_set5 (by have := hk.1.2; omega)) (CellsT.one (t := t1) ((HS1.out.bel J8.out.1).mono (T := fun k => (w1.heap.size ≤ k ∧ k ≠ w4.heap.size + 1) ∧ k ≠ w4.heap.size) (fun k hk _ => by have hk1 := hk.1; have hk2 := hk.2; first | omega | (simp at hk1; omega))))) (set5_at A2_8.out) (below_set5 (K1.out.1.trans (J8.out.1.mono K1.out.1.size)) (by omega)) rfl (by decide))
        | (refine begun_of (A := w8.heap.size) (R := w4.heap.size) (n := 1) (by omega) (by omega) (by omega) (blk_alloc HROW.out) (CellsT.keep (w := w8) (S := fun k => (w1.heap.size ≤ k ∧ k ≠ w8.heap.size) ∧ k ≠ w4.heap.size) (fun _ h _ => h) (fun k _ hl => Below.heap_alloc _ _ _ hl) (CellsT.one (t := t1) ((HS1.out.bel J8.out.1).mono (T := fun k => (w1.heap.size ≤ k ∧ k ≠ w8.heap.size) ∧ k ≠ w4.heap.size) (fun k hk _ => by have hk1 := hk.1; have hk2 := hk.2; first | omega | (simp at hk1; omega))))) (heap_alloc_new _ _) ((K1.out.1.trans (J8.out.1.mono K1.out.1.size)).alloc (by omega) _) rfl (by decide))
        | (refine begun_of (A := w1.heap.size) (R := w4.heap.size + 1) (n := 1) (by omega) (by omega) (by omega) ((heap_set5 (by omega)).trans HROW.out) (CellsT.keep (w := w8) (S := fun k => (w1.heap.size ≤ k ∧ k ≠ w1.heap.size) ∧ k ≠ w4.heap.size + 1) (fun _ h _ => h) (fun k hk _ => heap_set5 (by have := hk.1.2; omega)) (CellsT.one (t := t1) ((HS1.out.bel J8.out.1).mono (T := fun k => (w1.heap.size ≤ k ∧ k ≠ w1.heap.size) ∧ k ≠ w4.heap.size + 1) (fun k hk _ => by have hk1 := hk.1; have hk2 := hk.2; first | omega | (simp at hk1; omega))))) (set5_at A0_8.out) (below_set5 (K1.out.1.trans (J8.out.1.mono K1.out.1.size)) (by omega)) rfl (by decide))
        | (refine begun_of (A := w4.heap.size) (R := w4.heap.size + 1) (n := 1) (by omega) (by omega) (by omega) ((heap_set5 (by omega)).trans HROW.out) (CellsT.keep (w := w8) (S := fun k => (w1.heap.size ≤ k ∧ k ≠ w4.heap.size) ∧ k ≠ w4.heap.size + 1) (fun _ h _ => h) (fun k hk _ => heap_set5 (by have := hk.1.2; omega)) (CellsT.one (t := t1) ((HS1.out.bel J8.out.1).mono (T := fun k => (w1.heap.size ≤ k ∧ k ≠ w4.heap.size) ∧ k ≠ w4.heap.size + 1) (fun k hk _ => by have hk1 := hk.1; have hk2 := hk.2; first | omega | (simp at hk1; omega))))) (set5_at A1_8.out) (below_set5 (K1.out.1.trans (J8.out.1.mono K1.out.1.size)) (by omega)) rfl (by decide))
        | (refine begun_of (A := w8.heap.size) (R := w4.heap.size + 1) (n := 1) (by omega) (by omega) (by omega) (blk_alloc HROW.out) (CellsT.keep (w := w8) (S := fun k => (w1.heap.size ≤ k ∧ k ≠ w8.heap.size) ∧ k ≠ w4.heap.size + 1) (fun _ h _ => h) (fun k _ hl => Below.heap_alloc _ _ _ hl) (CellsT.one (t := t1) ((HS1.out.bel J8.out.1).mono (T := fun k => (w1.heap.size ≤ k ∧ k ≠ w8.heap.size) ∧ k ≠ w4.heap.size + 1) (fun k hk _ => by have hk1 := hk.1; have hk2 := hk.2; first | omega | (simp at hk1; omega))))) (heap_alloc_new _ _) ((K1.out.1.trans (J8.out.1.mono K1.out.1.size)).alloc (by omega) _) rfl (by decide))
  case rest =>
    obtain ⟨A, v, rfl, hA, hvA, hAb, hO, hB⟩ := hcut
    have q2 := ((bcell hB).1 b 2 zb1).trans Q2.out
    have zbc : b < wc.heap.size := Nat.lt_of_lt_of_le zb1 hB.size
    have HVA := Lib.hid hvA; have HAB := Lib.hid hAb; have HO := Lib.hid hO; have HBC := Lib.hid hB
    clear hvA hAb hO hB q0 q16
    have zAr : A ≠ w0.heap.size := by omega
    have zAb : A ≠ b := by omega
    go_wp2_with fail
    clear q2
    go_loopw [25] (fun i wr => ∃ j v, j ≤ l.length ∧ i = .int .i64 (j : Nat) ∧ v.ownBlock ≠ some A ∧ wr.heap[A]? = some (.cells #[.int .i64 13, .string ⟨#[]⟩, .int .i64 0, .bool false, v] 24) ∧
        OwnT (fun k => w1.heap.size ≤ k ∧ k ≠ A) w1.heap.size 24 wr v (t1 :: (l.take j).map argT) ∧ Below w1.heap.size w1 wr) (fun i _ => l.length - (intOf i).toNat)
    case atStart => exact ⟨0, v, Nat.zero_le _, rfl, HVA.out, HAB.out, by simpa using HO.out, HBC.out⟩
    case round =>
      clear HVA HAB HO HBC
      obtain ⟨j, v, hj, rfl, hvA, hAb, hO, hB⟩ := hrel
      obtain ⟨va, vc, rfl⟩ := hO.form
      have hlen : (t1 :: (l.take j).map argT).length = j + 1 := by simp [Nat.min_eq_left hj]
      have HL := Lib.hid hlen
      rw [hlen] at hvA hAb hO
      clear hlen
      have HA := Lib.hid hAb
      have zA : A < wr.heap.size := heap_lt hAb
      have y1 : wr.cell? ⟨A, 4, none⟩ = some (.slice va (j + 1) vc) := cell_of hAb rfl
      have y2 : ∀ i, wr.frozen? ⟨A, i, none⟩ = false := fun i => unfrozen_of_block hAb i
      have HVA := Lib.hid hvA; clear hvA
      by_cases hjl : j < l.length
      · clear hAb
        obtain ⟨p, hp⟩ : ∃ p, l[j]? = some p := ⟨_, List.getElem?_eq_getElem hjl⟩
        have HP := Lib.hid hp; clear hp
        obtain ⟨rfl, hgb⟩ := HG.out (by omega)
        have zg := heap_lt hgb
        have hgr := (hB.block g (by omega)).trans ((HB1.out.block g zg).trans hgb)
        have c0 : wr.cell? ⟨g, j * 2, none⟩ = some (.iface (ys j) (.pointer (some ⟨bs j, 0, none⟩))) := cell_of hgr (HRR.out j hjl).1
        have c1 : wr.cell? ⟨g, j * 2 + 1, none⟩ = some (.slice (ps j) 0 (ns j)) := cell_of hgr (HRR.out j hjl).2
        have zgr : g < wr.heap.size := heap_lt hgr
        clear hgb hgr
        obtain ⟨xs, hown, hcs⟩ := hO
        rw [HL.out] at hown
        have HO := Lib.hid hown; clear hown
        have HC := Lib.hid hcs; clear hcs
        have HN := Lib.hid (HNN.out j p HP.out)
        have HD := Lib.hid (show Below wr.heap.size wr (wr.alloc (.cells #[.iface (ys j) (.pointer (some ⟨bs j, 0, none⟩)), .slice (ps j) 0 (ns j)] 84)).drew from (below_alloc1 _ _).drew)
        have HWW := Lib.hid (HW1.out.trans ((hB.mono HW1.out.size).trans (HD.out.mono (Nat.le_trans HW1.out.size hB.size))))
        have zB := hB.size
        have HB2 := Lib.hid hB; clear hB
        go_wp2_with fail
        clear c0 c1
        go_region_law ((first
          | (refine step_call (by rfl) (HN.out _ HWW.out) ?_ ?_; (focus (go_simp; done)); rintro e w4 ⟨⟨u4, rfl, hs4⟩, hb4⟩; refine ⟨_, rfl, ?_⟩; obtain ⟨a4, c4, rfl, hc4⟩ := hs4.form; have HS4 := Lib.hid hs4; clear hs4; have HB4 := Lib.hid (HD.out.trans (hb4.mono HD.out.size)); clear hb4; have z4 : A < w4.heap.size := Nat.lt_of_lt_of_le zA HB4.out.size; have x1 := ((bcell HB4.out).1 _ _ zA).trans y1; have x2 := fun i => ((bcell HB4.out).2 _ i zA).trans (y2 i))
          | (refine step_call (by rfl) (one_any 32 0 ⟨#[]⟩ false (some ⟨w4.heap.size, 0, none⟩) 1 1 _) ?_ ?_; (focus (go_simp; done)); rintro e w5 ⟨rfl, hb5⟩; refine ⟨_, rfl, ?_⟩; have J5 := Lib.hid ((below_alloc1 w4 (.cells #[.int .i64 p.k, .string p.tx, .int .i64 p.op, .bool p.fl, .slice a4 p.subs.length c4] 24)).trans (hb5.mono (by simp))); have HROW := Lib.hid ((hb5.block w4.heap.size (by simp)).trans (heap_alloc_new w4 (.cells #[.int .i64 p.k, .string p.tx, .int .i64 p.op, .bool p.fl, .slice a4 p.subs.length c4] 24))); clear hb5; have HB5 := Lib.hid (HB4.out.trans (J5.out.mono HB4.out.size)); have z5 : A < w5.heap.size := Nat.lt_of_lt_of_le zA HB5.out.size; have x15 := ((bcell HB5.out).1 _ _ zA).trans y1; have x25 := fun i => ((bcell HB5.out).2 _ i zA).trans (y2 i); have HB6 := Lib.hid (HB5.out.trans ((below_alloc1 w5 (.cells #[.int .i64 32, .string ⟨#[]⟩, .int .i64 0, .bool false, .slice (some ⟨w4.heap.size, 0, none⟩) 1 1] 24)).mono HB5.out.size)); have HO6 := Lib.hid (ownsRow_below HO.out HB6.out); have zz5 := heap_lt HROW.out; have zz4 := HB4.out.size)
          | (refine step_append_lies _ rfl (.tmp 30) (.tmp 36) 22 rfl w1.heap.size 24 i0 (.agg #[.int .i64 0, .string ByteArray.empty, .int .i64 0, .bool false, .slice none 0 0]) 5 64 Tryz.underlying22 hi0 hz0 hs0 hb0 rfl (by omega) (.slice va (j + 1) vc) (j + 1) xs (by simp [Act.eval]) HO6.out ⟨w5.heap.size, 0, none⟩ 1 1 (nV (argT p) (.slice (some ⟨w4.heap.size, 0, none⟩) 1 1)) (by simp [Act.eval]) rfl (news5 rfl) (by simp [nV, Value.oneCell']) (by omega) (by unfold maxLen; omega) (by omega) (by simp; omega) _ rfl ?_; intro g6 cap1 w6 hown6 hgrow6 hat6 hlt6; have HG6 := Lib.hid hgrow6; have HO7 := Lib.hid hown6; have HT6 := Lib.hid hat6; clear hgrow6 hown6 hat6; have HA6 := Lib.hid (show w6.heap[A]? = some (.cells #[.int .i64 13, .string ⟨#[]⟩, .int .i64 0, .bool false, .slice va (j + 1) vc] 24) from (HG6.out.block _ (by simp; omega) (fun e => HVA.out e.symm)).trans ((HB6.out.block _ zA).trans HA.out)); have v1 := cell_of (j := 4) HA6.out rfl; have v2 := fun i => unfrozen_of_block HA6.out i)))
        all_goals
          have hB6 := HB2.out.trans (HB6.out.mono HB2.out.size)
          have hlt := fun k hk => (HO.out.lt k hk)
          have hrow5 : (w5.alloc (.cells #[.int .i64 32, .string ⟨#[]⟩, .int .i64 0, .bool false, .slice (some ⟨w4.heap.size, 0, none⟩) 1 1] 24)).heap[w4.heap.size]? = some (.cells #[.int .i64 p.k, .string p.tx, .int .i64 p.op, .bool p.fl, .slice a4 p.subs.length c4] 24) := (Below.heap_alloc _ _ _ zz5).trans HROW.out
          have hsub : Subs (w5.alloc (.cells #[.int .i64 32, .string ⟨#[]⟩, .int .i64 0, .bool false, .slice (some ⟨w4.heap.size, 0, none⟩) 1 1] 24)) (fun k => (w1.heap.size ≤ k ∧ k ≠ A) ∧ (Value.slice va (j + 1) vc).ownBlock ≠ some k) (argT p).subs (.slice (some ⟨w4.heap.size, 0, none⟩) 1 1) := by
            refine subs_block (l := [p]) hrow5 (CellsT.one (((HS4.out.bel J5.out).bel (below_alloc1 w5 (.cells #[.int .i64 32, .string ⟨#[]⟩, .int .i64 0, .bool false, .slice (some ⟨w4.heap.size, 0, none⟩) 1 1] 24))).mono (fun k hk _ => ?_))) rfl rfl ⟨⟨by omega, by omega⟩, fun e => by have := (hlt _ e).2; omega⟩
            have hk' := hk
            simp at hk'
            exact ⟨⟨by omega, by omega⟩, fun e => by have := (hlt _ e).2; omega⟩
          have hO7 := OwnT.push (S := fun k => w1.heap.size ≤ k ∧ k ≠ A) (HC.out.below HB6.out) hsub HO7.out (by rw [HL.out]) HG6.out HT6.out
          rw [List.cons_append, show ([argT p] : List Tr) = [p].map argT from rfl, ← List.map_append, ← take_snoc HP.out] at hO7
          have hg6 : w1.heap.size ≤ g6 := (HO7.out.lt g6 rfl).1
          have hg6A : g6 ≠ A := by
            rcases HT6.out with h | h
            · exact fun e => HVA.out (by rw [h, e])
            · simp at h; omega
          have hO8 := Lib.hid (hO7.keep (w' := w6.setCell ⟨A, 4, none⟩ (.slice (some ⟨g6, 0, none⟩) (j + 1 + 1) cap1)) (fun k hk _ => Below.heap_setCell _ _ _ _ (by
            rcases hk with hk | hk
            · exact fun e => hk.2 (by simpa using e)
            · have e2 : g6 = k := by simpa [Value.ownBlock] using hk
              exact fun e => hg6A (by simp only at e; omega))))
          have hB7 := hB6.grown HG6.out hB6.size (fun k hk => (hlt k hk).1)
          have hB8 := Lib.hid (hB7.setCell (p := ⟨A, 4, none⟩) (by simp only; omega) (.slice (some ⟨g6, 0, none⟩) (j + 1 + 1) cap1))
          have hA8 := Lib.hid (show (w6.setCell ⟨A, 4, none⟩ (.slice (some ⟨g6, 0, none⟩) (j + 1 + 1) cap1)).heap[A]? = some (.cells #[.int .i64 13, .string ⟨#[]⟩, .int .i64 0, .bool false, .slice (some ⟨g6, 0, none⟩) (j + 1 + 1) cap1] 24) from by simp [World.setCell, Array.getElem?_modify, HA6.out])
          have hV8 := Lib.hid (show (Value.slice (some ⟨g6, 0, none⟩) (j + 1 + 1) cap1).ownBlock ≠ some A from fun e => hg6A (by simpa [Value.ownBlock] using e))
          clear hB6 hsub hO7 hB7 hrow5 hlt
          go_wp2
          go_roundw
          case rel => exact ⟨j + 1, _, by omega, by go_num, hV8.out, hA8.out, hO8.out, hB8.out⟩
          case measure => simp [intOf]; omega
      · obtain rfl : j = l.length := by omega
        rw [List.take_length] at hO
        have a0 := cell_of (j := 0) hAb rfl
        have a1 := cell_of (j := 1) hAb rfl
        have a2 := cell_of (j := 2) hAb rfl
        have a3 := cell_of (j := 3) hAb rfl
        have q3 := ((bcell hB).1 b 3 zb1).trans Q3.out
        have zbr : b < wr.heap.size := Nat.lt_of_lt_of_le zb1 hB.size
        have HRX := Lib.hid ((hB.block w0.heap.size zr).trans HR.out)
        have r0 := cell_of (j := 0) HRX.out rfl
        have r1 := cell_of (j := 1) HRX.out rfl
        have r2 := cell_of (j := 2) HRX.out rfl
        have r3 := cell_of (j := 3) HRX.out rfl
        have r4 := cell_of (j := 4) HRX.out rfl
        have r5 := fun i => unfrozen_of_block HRX.out i
        have zrr : w0.heap.size < wr.heap.size := heap_lt HRX.out
        have HO := Lib.hid hO; clear hO hAb
        have HBX := Lib.hid hB; clear hB
        go_wp2
        go_loop [46] (fun i => i = .int .i64 0) (fun _ => 0)
        case atStart => rfl
        case round =>
          subst hrel
          go_wp2
          have hr6 := set5_at (a := .int .i64 13) (b := .string ⟨#[]⟩) (c := .int .i64 0) (d := .bool false) (e := .slice va (l.length + 1) vc) HRX.out
          have v0 := cell_of (j := 0) hr6 rfl
          have v1 := cell_of (j := 1) hr6 rfl
          have v2 := cell_of (j := 2) hr6 rfl
          have v3 := cell_of (j := 3) hr6 rfl
          have v4 := cell_of (j := 4) hr6 rfl
          have hBB := HB1.out.trans (HBX.out.mono HB1.out.size)
          refine bodyPost_ret (v := .agg #[.int .i64 13, .string ⟨#[]⟩, .int .i64 0, .bool false, .slice va (l.length + 1) vc]) (by simp [results, Tryz.results25, go_sem, v0, v1, v2, v3, v4]) rfl ⟨⟨_, rfl, ?_⟩, below_set5 hBB (Nat.le_refl _)⟩
          refine (HO.out.keep (fun k hk _ => heap_set5 (g := w0.heap.size) ?_)).subs (fun k hk => ?_)
          · rcases hk with hk | hk
            · omega
            · obtain ⟨xs, ho, _⟩ := HO.out
              have := (ho.lt k hk).1
              omega
          · rcases hk with hk | hk
            · show w0.heap.size ≤ k
              omega
            · obtain ⟨xs, ho, _⟩ := HO.out
              have := (ho.lt k hk).1
              show w0.heap.size ≤ k
              omega
end Go.Proofs.YtlgajopaokjjaaaGreatFmt

