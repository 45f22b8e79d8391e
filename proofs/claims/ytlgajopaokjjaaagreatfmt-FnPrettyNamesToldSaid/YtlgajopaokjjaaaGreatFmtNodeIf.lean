/-
  impl.node, at conditionals. Conditions: none.
-/
import Derived.Test.YtlgajopaokjjaaaGreatFmtNode2
import Derived.Test.YtlgajopaokjjaaaGreatFmtInfoIN
import Derived.Test.YtlgajopaokjjaaaGreatFmtBase
import Derived.Deep.RegionHeldLaw
namespace Go.Proofs.YtlgajopaokjjaaaGreatFmt
open Go.ChangeShapes Go.WideShapes Go.ChangeAt Go.RowKit Go.Joins
attribute [local go_sem] ta_Apply ta_ApplyBrace ta_Array ta_ArrayComp ta_Assert ta_Binary ta_Conditional ta_Dollar ta_Error ta_Function ta_Import ta_ImportBin ta_ImportStr ta_InSuper ta_Index ta_LiteralBoolean ta_LiteralNull ta_LiteralNumber ta_LiteralString ta_Local ta_Object ta_ObjectComp ta_Parens ta_Self ta_Slice ta_SuperIndex ta_Unary ta_Var ne_nil1 ne_nil0

theorem blk_keep {W w : World} {g : Nat} {o : Obj} (hb : Below W.heap.size W w) (h : W.heap[g]? = some o) : w.heap[g]? = some o := (hb.block g (heap_lt h)).trans h
theorem blk_alloc {W : World} {g : Nat} {o o' : Obj} (h : W.heap[g]? = some o) : (W.alloc o').heap[g]? = some o := (Below.heap_alloc W o' g (heap_lt h)).trans h
theorem blk_drew {W : World} {g : Nat} {o : Obj} (h : W.heap[g]? = some o) : W.drew.heap[g]? = some o := h
theorem blk_new {W : World} {g : Nat} {o : Obj} (hg : g = W.heap.size) : (W.alloc o).heap[g]? = some o := by subst hg; exact heap_alloc_new W o
theorem blk_set {W : World} {g : Nat} {o : Obj} {p : Addr} {u : Value} (hn : g ≠ p.block) (h : W.heap[g]? = some o) : (W.setCell p u).heap[g]? = some o := (Below.heap_setCell _ _ _ _ hn).trans h
/-- A row of nodes that a call has just made. -/
theorem ownT_block {S : Nat → Prop} {base : Nat} {w : World} {g n : Nat} {cs : Array Value} {t : TypeId} {l : List Tr} (hb : base ≤ g) (hg : w.heap[g]? = some (.cells cs t)) (hc : CellsT w (fun k => S k ∧ k ≠ g) l cs.toList) (hn : l.length = n) (hm : n ≤ 100) : OwnT S base t w (.slice (some ⟨g, 0, none⟩) n n) l := by
  subst hn
  have hl : cs.toList.length = l.length * 5 := hc.length
  refine ⟨cs.toList, ⟨?_, .inr ⟨g, l.length, cs, rfl, hb, hg, Nat.le_refl _, by unfold maxLen; omega, ?_, ?_⟩⟩, hc.keep (fun k hk _ => ⟨hk.1, fun e => hk.2 (by simpa [Value.ownBlock] using e.symm)⟩) (fun _ _ _ => rfl)⟩
  · omega
  · simpa using hl
  · rw [← hl, List.take_length]
theorem cutin {T G : Prop} (h : T) (k : T → G) : G := k h
theorem stay_trans {A B C : World} (h : Stay A B) (h' : Stay B C) : Stay A C := stay_of (h.1.trans (h'.1.mono h.1.size))
/-- A node that a call has begun: its block, and the row of what is below it. -/
def Begun (w1 : World) (k : Int) (fl : Bool) (l : List Tr) (x : Value) (wx : World) : Prop :=
  ∃ (A : Nat) (v : Value), x = .pointer (some ⟨A, 0, none⟩) ∧ w1.heap.size ≤ A ∧ v.ownBlock ≠ some A ∧ wx.heap[A]? = some (.cells #[.int .i64 k, .string ⟨#[]⟩, .int .i64 0, .bool fl, v] 24) ∧
    OwnT (fun k => w1.heap.size ≤ k ∧ k ≠ A) w1.heap.size 24 wx v l ∧ Below w1.heap.size w1 wx
theorem begun_of {w1 wx : World} {k : Int} {fl : Bool} {l : List Tr} {A R n : Nat} {cs : Array Value} (hA : w1.heap.size ≤ A) (hR : w1.heap.size ≤ R) (hne : R ≠ A) (hrow : wx.heap[R]? = some (.cells cs 24)) (hc : CellsT wx (fun k => (w1.heap.size ≤ k ∧ k ≠ A) ∧ k ≠ R) l cs.toList)
    (hout : wx.heap[A]? = some (.cells #[.int .i64 k, .string ⟨#[]⟩, .int .i64 0, .bool fl, .slice (some ⟨R, 0, none⟩) n n] 24)) (hb : Below w1.heap.size w1 wx) (hn : l.length = n) (hm : n ≤ 100) : Begun w1 k fl l (.pointer (some ⟨A, 0, none⟩)) wx :=
  ⟨A, _, rfl, hA, fun e => hne (by simpa [Value.ownBlock] using e), hout, ownT_block hR hrow hc hn hm, hb⟩

set_option maxRecDepth 100000 in
set_option maxHeartbeats 16000000 in
theorem node_if2 {w : World} {b : Nat} {p0 p1 p2 p3 : Option Addr} {n0 n1 n2 n3 : Nat} {t1 t2 : Tr} {y1 y2 : TypeId} {b1 b2 : Nat} (hb : w.heap[b]? = some (.cells #[.iface y1 (.pointer (some ⟨b1, 0, none⟩)), .iface y2 (.pointer (some ⟨b2, 0, none⟩)), .nilIface, .slice p2 0 n2, .slice p3 0 n3, .slice p0 0 n0, .pointer none, .slice p1 0 n1, .pointer none, .string ByteArray.empty, .int .i64 0, .int .i64 0, .int .i64 0, .int .i64 0] 75)) (N1 : NodeAt w t1 y1 b1) (N2 : NodeAt w t2 y2 b2) : NodeAt w (.mk 10 ByteArray.empty 0 false [t1, t2]) 73 b := by
  intro w0 hw
  have HB := Lib.hid ((hw.block b (heap_lt hb)).trans hb)
  have zb : b < w0.heap.size := heap_lt HB.out
  have HW := Lib.hid hw
  clear hb hw
  go_enter Tryz.func13, Tryz.ntmps13
  go_wp2_with fail
  refine (simple_no 73 (by simp) _ _).mono ?_
  rintro e w1 ⟨rfl, hb1⟩
  have HR := Lib.hid ((hb1.block w0.heap.size (by simp)).trans (heap_alloc_new w0 (.cells #[.int .i64 0, .string ByteArray.empty, .int .i64 0, .bool false, .slice none 0 0] 24)))
  have HB1 := Lib.hid ((below_alloc1 w0 (.cells #[.int .i64 0, .string ByteArray.empty, .int .i64 0, .bool false, .slice none 0 0] 24)).trans (hb1.mono (by simp)))
  have HW1 := Lib.hid (HW.out.trans (HB1.out.mono HW.out.size))
  have zr : w0.heap.size < w1.heap.size := heap_lt HR.out
  have zb1 : b < w1.heap.size := by omega
  have q0 := (World.cell?_of_block (w := w0) (w' := w1) (a := ⟨b, 0, none⟩) (HB1.out.block b zb)).trans (cell_of (j := 0) HB.out rfl)
  have q1 := (World.cell?_of_block (w := w0) (w' := w1) (a := ⟨b, 1, none⟩) (HB1.out.block b zb)).trans (cell_of (j := 1) HB.out rfl)
  have Q2 := Lib.hid ((World.cell?_of_block (w := w0) (w' := w1) (a := ⟨b, 2, none⟩) (HB1.out.block b zb)).trans (cell_of (j := 2) HB.out rfl))
  clear hb1
  go_wp2_with fail
  go_cut [8] (fun x wx => Begun w1 10 false [t1, t2] x wx)
  case first =>
    have keepq : ∀ {w' : World}, Hid (w1.cell? ⟨b, 0, none⟩ = some (.iface y1 (.pointer (some ⟨b1, 0, none⟩))) ∧ w1.cell? ⟨b, 1, none⟩ = some (.iface y2 (.pointer (some ⟨b2, 0, none⟩)))) → Stay w1 w' → w'.cell? ⟨b, 0, none⟩ = some (.iface y1 (.pointer (some ⟨b1, 0, none⟩))) ∧ w'.cell? ⟨b, 1, none⟩ = some (.iface y2 (.pointer (some ⟨b2, 0, none⟩))) := fun q h => by
      have q := q.out
      refine ⟨?_, ?_⟩
      · rw [h.2 b 0 zb1]; exact q.1
      · rw [h.2 b 1 zb1]; exact q.2
    have QQ := Lib.hid (And.intro q0 q1)
    go_region_held_law (fun w' => w'.cell? ⟨b, 0, none⟩ = some (.iface y1 (.pointer (some ⟨b1, 0, none⟩))) ∧ w'.cell? ⟨b, 1, none⟩ = some (.iface y2 (.pointer (some ⟨b2, 0, none⟩))))
      ((refine keepq QQ.out ?_; repeat (first | with_reducible exact K8.out | with_reducible exact K2.out | with_reducible exact K1.out | with_reducible exact stay_of (Below.refl _ _) | with_reducible refine stay_drew ?_ | with_reducible refine stay_alloc ?_ _ | (refine stay_set ?_ (by simp only; omega) _))))
      ((first
      | (refine step_call (by rfl) (N1 _ (HW1.out.trans ((show Stay w1 _ from (by repeat (first | with_reducible exact stay_of (Below.refl _ _) | with_reducible refine stay_drew ?_ | with_reducible refine stay_alloc ?_ _))).1.mono HW1.out.size))) ?_ ?_; (focus (go_simp; done)); rintro e w4 ⟨⟨u1, rfl, hs1⟩, hb4⟩; refine ⟨_, rfl, ?_⟩; obtain ⟨a1, c1, rfl, hc1⟩ := hs1.form; have J1 := Lib.hid (show Stay w1 w4 from stay_step (by repeat (first | with_reducible exact stay_of (Below.refl _ _) | with_reducible refine stay_drew ?_ | with_reducible refine stay_alloc ?_ _)) hb4); have K1 := Lib.hid (show Stay w1 w4 from J1.out); have HS1 := Lib.hid (hs1.mono (T := fun k => _ ≤ k ∧ k < w4.heap.size) (fun k hk hl => ⟨hk, hl⟩)); clear hs1; (try (refine cutin (T := Hid (w4.heap[w1.heap.size + 1]? = some (Obj.cells #[.int .i64 0, .string ⟨#[]⟩, .int .i64 0, .bool false, .slice none 0 0] 24))) ?_ ?_; (focus (refine Lib.hid (blk_keep hb4 ?_); (repeat (first | (refine blk_new ?_; (simp; done)) | with_reducible refine blk_drew ?_ | with_reducible refine blk_alloc ?_)); done)); intro A0_1; have A0_z1 := heap_lt A0_1.out)); have q0_1 := (World.cell?_of_block (w := w1) (w' := w4) (a := ⟨b, 0, none⟩) (K1.out.1.block b zb1)).trans q0; have q1_1 := (World.cell?_of_block (w := w1) (w' := w4) (a := ⟨b, 1, none⟩) (K1.out.1.block b zb1)).trans q1; have zbb1 : b < w4.heap.size := Nat.lt_of_lt_of_le zb1 K1.out.1.size; have zw1 := J1.out.1.size; clear hb4)
      | (refine step_call (by rfl) (N2 _ (HW1.out.trans ((show Stay w1 _ from (stay_trans K1.out (by repeat (first | with_reducible exact stay_of (Below.refl _ _) | with_reducible refine stay_drew ?_ | with_reducible refine stay_alloc ?_ _)))).1.mono HW1.out.size))) ?_ ?_; (focus (go_simp; done)); rintro e w5 ⟨⟨u2, rfl, hs2⟩, hb5⟩; refine ⟨_, rfl, ?_⟩; obtain ⟨a2, c2, rfl, hc2⟩ := hs2.form; have J2 := Lib.hid (show Stay w4 w5 from stay_step (by repeat (first | with_reducible exact stay_of (Below.refl _ _) | with_reducible refine stay_drew ?_ | with_reducible refine stay_alloc ?_ _)) hb5); have K2 := Lib.hid (show Stay w1 w5 from stay_trans K1.out J2.out); have HS2 := Lib.hid (hs2.mono (T := fun k => _ ≤ k ∧ k < w5.heap.size) (fun k hk hl => ⟨hk, hl⟩)); clear hs2; (try (refine cutin (T := Hid (w5.heap[w1.heap.size + 1]? = some (Obj.cells #[.int .i64 0, .string ⟨#[]⟩, .int .i64 0, .bool false, .slice none 0 0] 24))) ?_ ?_; (focus (refine Lib.hid (blk_keep hb5 ?_); (repeat (first | with_reducible exact A0_1.out | (refine blk_new ?_; (simp; done)) | with_reducible refine blk_drew ?_ | with_reducible refine blk_alloc ?_)); done)); intro A0_2; have A0_z2 := heap_lt A0_2.out)); (try (refine cutin (T := Hid (w5.heap[w4.heap.size]? = some (Obj.cells #[.int .i64 0, .string ⟨#[]⟩, .int .i64 0, .bool false, .slice none 0 0] 24))) ?_ ?_; (focus (refine Lib.hid (blk_keep hb5 ?_); (repeat (first | (refine blk_new ?_; (simp; done)) | with_reducible refine blk_drew ?_ | with_reducible refine blk_alloc ?_)); done)); intro A1_2; have A1_z2 := heap_lt A1_2.out)); have q0_2 := (World.cell?_of_block (w := w1) (w' := w5) (a := ⟨b, 0, none⟩) (K2.out.1.block b zb1)).trans q0; have q1_2 := (World.cell?_of_block (w := w1) (w' := w5) (a := ⟨b, 1, none⟩) (K2.out.1.block b zb1)).trans q1; have zbb2 : b < w5.heap.size := Nat.lt_of_lt_of_le zb1 K2.out.1.size; have zw2 := J2.out.1.size; clear hb5)
      | (refine step_call (by rfl) (one_any 10 0 ⟨#[]⟩ false (some ⟨w5.heap.size, 0, none⟩) 2 2 _) ?_ ?_; (focus (go_simp; done)); rintro e w8 ⟨rfl, hb8⟩; refine ⟨_, rfl, ?_⟩; have J8 := Lib.hid (show Stay w5 w8 from stay_step (by repeat (first | with_reducible exact stay_of (Below.refl _ _) | with_reducible refine stay_drew ?_ | with_reducible refine stay_alloc ?_ _)) hb8); have HROW := Lib.hid (show w8.heap[w5.heap.size]? = some (Obj.cells #[.int .i64 t1.k, .string t1.tx, .int .i64 t1.op, .bool t1.fl, .slice a1 t1.subs.length c1, .int .i64 t2.k, .string t2.tx, .int .i64 t2.op, .bool t2.fl, .slice a2 t2.subs.length c2] 24) from blk_keep hb8 (by repeat (first | (refine blk_new ?_; (simp; done)) | with_reducible refine blk_drew ?_ | with_reducible refine blk_alloc ?_))); (try (refine cutin (T := Hid (w8.heap[w1.heap.size + 1]? = some (Obj.cells #[.int .i64 0, .string ⟨#[]⟩, .int .i64 0, .bool false, .slice none 0 0] 24))) ?_ ?_; (focus (refine Lib.hid (blk_keep hb8 ?_); (repeat (first | with_reducible exact A0_2.out | (refine blk_new ?_; (simp; done)) | with_reducible refine blk_drew ?_ | with_reducible refine blk_alloc ?_)); done)); intro A0_8; have a0_e0 := cell_of (j := 0) A0_8.out rfl; have a0_e1 := cell_of (j := 1) A0_8.out rfl; have a0_e2 := cell_of (j := 2) A0_8.out rfl; have a0_e3 := cell_of (j := 3) A0_8.out rfl; have a0_e4 := cell_of (j := 4) A0_8.out rfl; have a0_f := fun i => unfrozen_of_block A0_8.out i; have a0_z := heap_lt A0_8.out)); (try (refine cutin (T := Hid (w8.heap[w4.heap.size]? = some (Obj.cells #[.int .i64 0, .string ⟨#[]⟩, .int .i64 0, .bool false, .slice none 0 0] 24))) ?_ ?_; (focus (refine Lib.hid (blk_keep hb8 ?_); (repeat (first | with_reducible exact A1_2.out | (refine blk_new ?_; (simp; done)) | with_reducible refine blk_drew ?_ | with_reducible refine blk_alloc ?_)); done)); intro A1_8; have a1_e0 := cell_of (j := 0) A1_8.out rfl; have a1_e1 := cell_of (j := 1) A1_8.out rfl; have a1_e2 := cell_of (j := 2) A1_8.out rfl; have a1_e3 := cell_of (j := 3) A1_8.out rfl; have a1_e4 := cell_of (j := 4) A1_8.out rfl; have a1_f := fun i => unfrozen_of_block A1_8.out i; have a1_z := heap_lt A1_8.out)); (try (refine cutin (T := Hid (w8.heap[w5.heap.size + 1]? = some (Obj.cells #[.int .i64 0, .string ⟨#[]⟩, .int .i64 0, .bool false, .slice none 0 0] 24))) ?_ ?_; (focus (refine Lib.hid (blk_keep hb8 ?_); (repeat (first | (refine blk_new ?_; (simp; done)) | with_reducible refine blk_drew ?_ | with_reducible refine blk_alloc ?_)); done)); intro A3_8; have a3_e0 := cell_of (j := 0) A3_8.out rfl; have a3_e1 := cell_of (j := 1) A3_8.out rfl; have a3_e2 := cell_of (j := 2) A3_8.out rfl; have a3_e3 := cell_of (j := 3) A3_8.out rfl; have a3_e4 := cell_of (j := 4) A3_8.out rfl; have a3_f := fun i => unfrozen_of_block A3_8.out i; have a3_z := heap_lt A3_8.out)); have K8 := Lib.hid (stay_trans K2.out J8.out); have zr8 := heap_lt HROW.out; have zj8 := J8.out.1.size; clear hb8)
      | (refine step_call (by rfl) (one_any 10 0 ⟨#[]⟩ false (some ⟨w5.heap.size + 1, 0, none⟩) 2 2 _) ?_ ?_; (focus (go_simp; done)); rintro e w8 ⟨rfl, hb8⟩; refine ⟨_, rfl, ?_⟩; have J8 := Lib.hid (show Stay w5 w8 from stay_step (by repeat (first | with_reducible exact stay_of (Below.refl _ _) | with_reducible refine stay_drew ?_ | with_reducible refine stay_alloc ?_ _)) hb8); have HROW := Lib.hid (show w8.heap[w5.heap.size + 1]? = some (Obj.cells #[.int .i64 t1.k, .string t1.tx, .int .i64 t1.op, .bool t1.fl, .slice a1 t1.subs.length c1, .int .i64 t2.k, .string t2.tx, .int .i64 t2.op, .bool t2.fl, .slice a2 t2.subs.length c2] 24) from blk_keep hb8 (by repeat (first | (refine blk_new ?_; (simp; done)) | with_reducible refine blk_drew ?_ | with_reducible refine blk_alloc ?_))); (try (refine cutin (T := Hid (w8.heap[w1.heap.size + 1]? = some (Obj.cells #[.int .i64 0, .string ⟨#[]⟩, .int .i64 0, .bool false, .slice none 0 0] 24))) ?_ ?_; (focus (refine Lib.hid (blk_keep hb8 ?_); (repeat (first | with_reducible exact A0_2.out | (refine blk_new ?_; (simp; done)) | with_reducible refine blk_drew ?_ | with_reducible refine blk_alloc ?_)); done)); intro A0_8; have a0_e0 := cell_of (j := 0) A0_8.out rfl; have a0_e1 := cell_of (j := 1) A0_8.out rfl; have a0_e2 := cell_of (j := 2) A0_8.out rfl; have a0_e3 := cell_of (j := 3) A0_8.out rfl; have a0_e4 := cell_of (j := 4) A0_8.out rfl; have a0_f := fun i => unfrozen_of_block A0_8.out i; have a0_z := heap_lt A0_8.out)); (try (refine cutin (T := Hid (w8.heap[w4.heap.size]? = some (Obj.cells #[.int .i64 0, .string ⟨#[]⟩, .int .i64 0, .bool false, .slice none 0 0] 24))) ?_ ?_; (focus (refine Lib.hid (blk_keep hb8 ?_); (repeat (first | with_reducible exact A1_2.out | (refine blk_new ?_; (simp; done)) | with_reducible refine blk_drew ?_ | with_reducible refine blk_alloc ?_)); done)); intro A1_8; have a1_e0 := cell_of (j := 0) A1_8.out rfl; have a1_e1 := cell_of (j := 1) A1_8.out rfl; have a1_e2 := cell_of (j := 2) A1_8.out rfl; have a1_e3 := cell_of (j := 3) A1_8.out rfl; have a1_e4 := cell_of (j := 4) A1_8.out rfl; have a1_f := fun i => unfrozen_of_block A1_8.out i; have a1_z := heap_lt A1_8.out)); (try (refine cutin (T := Hid (w8.heap[w5.heap.size]? = some (Obj.cells #[.int .i64 0, .string ⟨#[]⟩, .int .i64 0, .bool false, .slice none 0 0] 24))) ?_ ?_; (focus (refine Lib.hid (blk_keep hb8 ?_); (repeat (first | (refine blk_new ?_; (simp; done)) | with_reducible refine blk_drew ?_ | with_reducible refine blk_alloc ?_)); done)); intro A2_8; have a2_e0 := cell_of (j := 0) A2_8.out rfl; have a2_e1 := cell_of (j := 1) A2_8.out rfl; have a2_e2 := cell_of (j := 2) A2_8.out rfl; have a2_e3 := cell_of (j := 3) A2_8.out rfl; have a2_e4 := cell_of (j := 4) A2_8.out rfl; have a2_f := fun i => unfrozen_of_block A2_8.out i; have a2_z := heap_lt A2_8.out)); have K8 := Lib.hid (stay_trans K2.out J8.out); have zr8 := heap_lt HROW.out; have zj8 := J8.out.1.size; clear hb8)))
    all_goals
      go_wp2_with fail
      go_meet
      have zk2 := K2.out.1.size
      first
        | (refine begun_of (A := w1.heap.size + 1) (R := w5.heap.size) (n := 2) (by omega) (by omega) (by omega) ((heap_set5 (by omega)).trans HROW.out) (CellsT.keep (w := w8) (S := fun k => (w1.heap.size ≤ k ∧ k ≠ w1.heap.size + 1) ∧ k ≠ w5.heap.size) (fun _ h _ => h) (fun k hk _ => heap_set5 (by have := hk.1.2; omega)) ((CellsT.one (t := t1) (((HS1.out.bel J2.out.1).bel J8.out.1).mono (T := fun k => (w1.heap.size ≤ k ∧ k ≠ w1.heap.size + 1) ∧ k ≠ w5.heap.size) (fun k hk _ => by have hk1 := hk.1; have hk2 := hk.2; first | omega | (simp at hk1; omega)))).snoc (t := t2) (((HS2.out.bel J8.out.1)).mono (T := fun k => (w1.heap.size ≤ k ∧ k ≠ w1.heap.size + 1) ∧ k ≠ w5.heap.size) (fun k hk _ => by have hk1 := hk.1; have hk2 := hk.2; first | omega | (simp at hk1; omega))))) (set5_at A0_8.out) (below_set5 (K2.out.1.trans (J8.out.1.mono K2.out.1.size)) (by omega)) rfl (by decide))
        | (refine begun_of (A := w4.heap.size) (R := w5.heap.size) (n := 2) (by omega) (by omega) (by omega) ((heap_set5 (by omega)).trans HROW.out) (CellsT.keep (w := w8) (S := fun k => (w1.heap.size ≤ k ∧ k ≠ w4.heap.size) ∧ k ≠ w5.heap.size) (fun _ h _ => h) (fun k hk _ => heap_set5 (by have := hk.1.2; omega)) ((CellsT.one (t := t1) (((HS1.out.bel J2.out.1).bel J8.out.1).mono (T := fun k => (w1.heap.size ≤ k ∧ k ≠ w4.heap.size) ∧ k ≠ w5.heap.size) (fun k hk _ => by have hk1 := hk.1; have hk2 := hk.2; first | omega | (simp at hk1; omega)))).snoc (t := t2) (((HS2.out.bel J8.out.1)).mono (T := fun k => (w1.heap.size ≤ k ∧ k ≠ w4.heap.size) ∧ k ≠ w5.heap.size) (fun k hk _ => by have hk1 := hk.1; have hk2 := hk.2; first | omega | (simp at hk1; omega))))) (set5_at A1_8.out) (below_set5 (K2.out.1.trans (J8.out.1.mono K2.out.1.size)) (by omega)) rfl (by decide))
        | (refine begun_of (A := w5.heap.size + 1) (R := w5.heap.size) (n := 2) (by omega) (by omega) (by omega) ((heap_set5 (by omega)).trans HROW.out) (CellsT.keep (w := w8) (S := fun k => (w1.heap.size ≤ k ∧ k ≠ w5.heap.size + 1) ∧ k ≠ w5.heap.size) (fun _ h _ => h) (fun k hk _ => heap_set5 (by have := hk.1.2; omega)) ((CellsT.one (t := t1) (((HS1.out.bel J2.out.1).bel J8.out.1).mono (T := fun k => (w1.heap.size ≤ k ∧ k ≠ w5.heap.size + 1) ∧ k ≠ w5.heap.size) (fun k hk _ => by have hk1 := hk.1; have hk2 := hk.2; first | omega | (simp at hk1; omega)))).snoc (t := t2) (((HS2.out.bel J8.out.1)).mono (T := fun k => (w1.heap.size ≤ k ∧ k ≠ w5.heap.size + 1) ∧ k ≠ w5.heap.size) (fun k hk _ => by have hk1 := hk.1; have hk2 := hk.2; first | omega | (simp at hk1; omega))))) (set5_at A3_8.out) (below_set5 (K2.out.1.trans (J8.out.1.mono K2.out.1.size)) (by omega)) rfl (by decide))
        | (refine begun_of (A := w8.heap.size) (R := w5.heap.size) (n := 2) (by omega) (by omega) (by omega) (blk_alloc HROW.out) (CellsT.keep (w := w8) (S := fun k => (w1.heap.size ≤ k ∧ k ≠ w8.heap.size) ∧ k ≠ w5.heap.size) (fun _ h _ => h) (fun k _ hl => Below.heap_alloc _ _ _ hl) ((CellsT.one (t := t1) (((HS1.out.bel J2.out.1).bel J8.out.1).mono (T := fun k => (w1.heap.size ≤ k ∧ k ≠ w8.heap.size) ∧ k ≠ w5.heap.size) (fun k hk _ => by have hk1 := hk.1; have hk2 := hk.2; first | omega | (simp at hk1; omega)))).snoc (t := t2) (((HS2.out.bel J8.out.1)).mono (T := fun k => (w1.heap.size ≤ k ∧ k ≠ w8.heap.size) ∧ k ≠ w5.heap.size) (fun k hk _ => by have hk1 := hk.1; have hk2 := hk.2; first | omega | (simp at hk1; omega))))) (heap_alloc_new _ _) ((K2.out.1.trans (J8.out.1.mono K2.out.1.size)).alloc (by omega) _) rfl (by decide))
        | (refine begun_of (A := w1.heap.size + 1) (R := w5.heap.size + 1) (n := 2) (by omega) (by omega) (by omega) ((heap_set5 (by omega)).trans HROW.out) (CellsT.keep (w := w8) (S := fun k => (w1.heap.size ≤ k ∧ k ≠ w1.heap.size + 1) ∧ k ≠ w5.heap.size + 1) (fun _ h _ => h) (fun k hk _ => heap_set5 (by have := hk.1.2; omega)) ((CellsT.one (t := t1) (((HS1.out.bel J2.out.1).bel J8.out.1).mono (T := fun k => (w1.heap.size ≤ k ∧ k ≠ w1.heap.size + 1) ∧ k ≠ w5.heap.size + 1) (fun k hk _ => by have hk1 := hk.1; have hk2 := hk.2; first | omega | (simp at hk1; omega)))).snoc (t := t2) (((HS2.out.bel J8.out.1)).mono (T := fun k => (w1.heap.size ≤ k ∧ k ≠ w1.heap.size + 1) ∧ k ≠ w5.heap.size + 1) (fun k hk _ => by have hk1 := hk.1; have hk2 := hk.2; first | omega | (simp at hk1; omega))))) (set5_at A0_8.out) (below_set5 (K2.out.1.trans (J8.out.1.mono K2.out.1.size)) (by omega)) rfl (by decide))
        | (refine begun_of (A := w4.heap.size) (R := w5.heap.size + 1) (n := 2) (by omega) (by omega) (by omega) ((heap_set5 (by omega)).trans HROW.out) (CellsT.keep (w := w8) (S := fun k => (w1.heap.size ≤ k ∧ k ≠ w4.heap.size) ∧ k ≠ w5.heap.size + 1) (fun _ h _ => h) (fun k hk _ => heap_set5 (by have := hk.1.2; omega)) ((CellsT.one (t := t1) (((HS1.out.bel J2.out.1).bel J8.out.1).mono (T := fun k => (w1.heap.size ≤ k ∧ k ≠ w4.heap.size) ∧ k ≠ w5.heap.size + 1) (fun k hk _ => by have hk1 := hk.1; have hk2 := hk.2; first | omega | (simp at hk1; omega)))).snoc (t := t2) (((HS2.out.bel J8.out.1)).mono (T := fun k => (w1.heap.size ≤ k ∧ k ≠ w4.heap.size) ∧ k ≠ w5.heap.size + 1) (fun k hk _ => by have hk1 := hk.1; have hk2 := hk.2; first | omega | (simp at hk1; omega))))) (set5_at A1_8.out) (below_set5 (K2.out.1.trans (J8.out.1.mono K2.out.1.size)) (by omega)) rfl (by decide))
        | (refine begun_of (A := w5.heap.size) (R := w5.heap.size + 1) (n := 2) (by omega) (by omega) (by omega) ((heap_set5 (by omega)).trans HROW.out) (CellsT.keep (w := w8) (S := fun k => (w1.heap.size ≤ k ∧ k ≠ w5.heap.size) ∧ k ≠ w5.heap.size + 1) (fun _ h _ => h) (fun k hk _ => heap_set5 (by have := hk.1.2; omega)) ((CellsT.one (t := t1) (((HS1.out.bel J2.out.1).bel J8.out.1).mono (T := fun k => (w1.heap.size ≤ k ∧ k ≠ w5.heap.size) ∧ k ≠ w5.heap.size + 1) (fun k hk _ => by have hk1 := hk.1; have hk2 := hk.2; first | omega | (simp at hk1; omega)))).snoc (t := t2) (((HS2.out.bel J8.out.1)).mono (T := fun k => (w1.heap.size ≤ k ∧ k ≠ w5.heap.size) ∧ k ≠ w5.heap.size + 1) (fun k hk _ => by have hk1 := hk.1; have hk2 := hk.2; first | omega | (simp at hk1; omega))))) (set5_at A2_8.out) (below_set5 (K2.out.1.trans (J8.out.1.mono K2.out.1.size)) (by omega)) rfl (by decide))
        | (refine begun_of (A := w8.heap.size) (R := w5.heap.size + 1) (n := 2) (by omega) (by omega) (by omega) (blk_alloc HROW.out) (CellsT.keep (w := w8) (S := fun k => (w1.heap.size ≤ k ∧ k ≠ w8.heap.size) ∧ k ≠ w5.heap.size + 1) (fun _ h _ => h) (fun k _ hl => Below.heap_alloc _ _ _ hl) ((CellsT.one (t := t1) (((HS1.out.bel J2.out.1).bel J8.out.1).mono (T := fun k => (w1.heap.size ≤ k ∧ k ≠ w8.heap.size) ∧ k ≠ w5.heap.size + 1) (fun k hk _ => by have hk1 := hk.1; have hk2 := hk.2; first | omega | (simp at hk1; omega)))).snoc (t := t2) (((HS2.out.bel J8.out.1)).mono (T := fun k => (w1.heap.size ≤ k ∧ k ≠ w8.heap.size) ∧ k ≠ w5.heap.size + 1) (fun k hk _ => by have hk1 := hk.1; have hk2 := hk.2; first | omega | (simp at hk1; omega))))) (heap_alloc_new _ _) ((K2.out.1.trans (J8.out.1.mono K2.out.1.size)).alloc (by omega) _) rfl (by decide))
  case rest =>
    obtain ⟨A, v, rfl, hA, hvA, hAb, hO, hB⟩ := hcut
    obtain ⟨va, vc, rfl⟩ := hO.form
    have HAB := Lib.hid hAb; have HO := Lib.hid hO; have HBX := Lib.hid hB; have HVA := Lib.hid hvA
    have zA := heap_lt hAb
    have q2 := ((bcell hB).1 b 2 zb1).trans Q2.out
    have HRX := Lib.hid ((hB.block w0.heap.size zr).trans HR.out)
    have zb2 : b < wc.heap.size := Nat.lt_of_lt_of_le zb1 hB.size
    have zr2 : w0.heap.size < wc.heap.size := Nat.lt_of_lt_of_le zr hB.size
    have zAb : A ≠ b := by omega
    have zAr : A ≠ w0.heap.size := by omega
    have a4 := cell_of (j := 4) hAb rfl
    clear q0 q1 hO hB hvA
    have a0 := cell_of (j := 0) hAb rfl
    have a1 := cell_of (j := 1) hAb rfl
    have a2 := cell_of (j := 2) hAb rfl
    have a3 := cell_of (j := 3) hAb rfl
    clear hAb
    have r0 := cell_of (j := 0) HRX.out rfl
    have r1 := cell_of (j := 1) HRX.out rfl
    have r2 := cell_of (j := 2) HRX.out rfl
    have r3 := cell_of (j := 3) HRX.out rfl
    have r4 := cell_of (j := 4) HRX.out rfl
    have r5 := fun i => unfrozen_of_block HRX.out i
    go_wp2
    have hr6 := set5_at (a := .int .i64 10) (b := .string ⟨#[]⟩) (c := .int .i64 0) (d := .bool false) (e := .slice va 2 vc) HRX.out
    have v0 := cell_of (j := 0) hr6 rfl
    have v1 := cell_of (j := 1) hr6 rfl
    have v2 := cell_of (j := 2) hr6 rfl
    have v3 := cell_of (j := 3) hr6 rfl
    have v4 := cell_of (j := 4) hr6 rfl
    have hBB := HB1.out.trans (HBX.out.mono HB1.out.size)
    have hz1 := HB1.out.size
    refine bodyPost_ret (v := .agg #[.int .i64 10, .string ⟨#[]⟩, .int .i64 0, .bool false, .slice va 2 vc]) (by simp [results, Tryz.results13, go_sem, v0, v1, v2, v3, v4]) rfl ⟨⟨_, rfl, ?_⟩, below_set5 hBB (Nat.le_refl _)⟩
    refine (HO.out.keep (fun k hk _ => heap_set5 (g := w0.heap.size) ?_)).subs (fun k hk => ?_)
    · rcases hk with hk | hk
      · omega
      · obtain ⟨xs, ho, _⟩ := HO.out
        have := (ho.lt k hk).1
        omega
    · rcases hk with hk | hk
      · show w0.heap.size ≤ k
        omega
      · obtain ⟨xs, ho, _⟩ := HO.out
        have := (ho.lt k hk).1
        show w0.heap.size ≤ k
        omega

end Go.Proofs.YtlgajopaokjjaaaGreatFmt
