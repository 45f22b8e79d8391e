/-
  impl.node, at every tree that lies in memory. Conditions: the lengths of its lists.
-/
import Derived.Test.YtlgajopaokjjaaaGreatFmtNode3
import Derived.Test.YtlgajopaokjjaaaGreatFmtNode4
import Derived.Test.YtlgajopaokjjaaaGreatFmtNodeArr
import Derived.Test.YtlgajopaokjjaaaGreatFmtNodeIf3
import Derived.Test.YtlgajopaokjjaaaGreatFmtNodeApp
import Derived.Test.YtlgajopaokjjaaaGreatFmtNodeFld
import Derived.Test.YtlgajopaokjjaaaGreatFmtNodeObj
namespace Go.Proofs.YtlgajopaokjjaaaGreatFmt
open Go.ChangeShapes Go.WideShapes Go.ChangeAt Go.RowKit Go.Joins
attribute [local go_sem] ta_Apply ta_ApplyBrace ta_Array ta_ArrayComp ta_Assert ta_Binary ta_Conditional ta_Dollar ta_Error ta_Function ta_Import ta_ImportBin ta_ImportStr ta_InSuper ta_Index ta_LiteralBoolean ta_LiteralNull ta_LiteralNumber ta_LiteralString ta_Local ta_Object ta_ObjectComp ta_Parens ta_Self ta_Slice ta_SuperIndex ta_Unary ta_Var

set_option maxRecDepth 100000 in
set_option maxHeartbeats 8000000 in
theorem node_apply {w : World} {b g : Nat} {cur : Array Value} {p0 p1 p2 p3 p4 p5 : Option Addr} {n0 n1 n2 n3 n4 n5 cap : Nat} {tc : Bool} {a : Option Addr} {t1 : Tr} {y1 : TypeId} {b1 : Nat} {l : List Tr} {ys bs : Nat → Nat} {ps : Nat → Option Addr} {ns : Nat → Nat}
    (hg : 0 < l.length → a = some ⟨g, 0, none⟩ ∧ w.heap[g]? = some (.cells cur 84))
    (hr : ∀ i, i < l.length → cur[i * 2]? = some (.iface (ys i) (.pointer (some ⟨bs i, 0, none⟩))) ∧ cur[i * 2 + 1]? = some (.slice (ps i) 0 (ns i)))
    (hb : w.heap[b]? = some (.cells #[.iface y1 (.pointer (some ⟨b1, 0, none⟩)), .slice p2 0 n2, .slice a l.length cap, .slice p3 0 n3, .slice p4 0 n4, .slice p5 0 n5, .slice p0 0 n0, .pointer none, .slice p1 0 n1, .pointer none, .string ByteArray.empty, .int .i64 0, .int .i64 0, .int .i64 0, .int .i64 0, .bool tc, .bool false] 82)) (hl : l.length ≤ 5) (N1 : NodeAt w t1 y1 b1) (NN : ∀ i t, l[i]? = some t → NodeAt w t (ys i) (bs i)) : NodeAt w (.mk 13 ByteArray.empty 0 false (t1 :: l.map argT)) 76 b := by
  intro w0 hw
  have HW := Lib.hid hw; clear hw
  have HF := Lib.hid (fun (w' : World) (h : Below w.heap.size w w') => apply_any hg hr hb hl N1 NN w' h)
  clear hg hr hb N1 NN
  go_enter Tryz.func13, Tryz.ntmps13
  go_wp2_with fail
  refine (simple_no 76 (by simp) _ _).mono ?_
  rintro e w1 ⟨rfl, hb1⟩
  have HR := Lib.hid ((hb1.block w0.heap.size (by simp)).trans (heap_alloc_new w0 (.cells #[.int .i64 0, .string ByteArray.empty, .int .i64 0, .bool false, .slice none 0 0] 24)))
  have HB1 := Lib.hid ((below_alloc1 w0 (.cells #[.int .i64 0, .string ByteArray.empty, .int .i64 0, .bool false, .slice none 0 0] 24)).trans (hb1.mono (by simp)))
  have zr : w0.heap.size < w1.heap.size := heap_lt HR.out
  have HD := Lib.hid (below_alloc1 w1 (.cells #[.int .i64 0, .string ByteArray.empty, .int .i64 0, .bool false, .slice none 0 0] 24))
  have HB2 := Lib.hid (HB1.out.trans (HD.out.mono HB1.out.size))
  have HW2 := Lib.hid (HW.out.trans (HB2.out.mono HW.out.size))
  clear hb1
  go_wp2_with fail
  refine (HF.out _ HW2.out).mono ?_
  rintro e w4 ⟨⟨u4, rfl, hs4⟩, hb4⟩
  obtain ⟨a4, c4, rfl, hc4⟩ := hs4.form
  have HS4 := Lib.hid hs4; clear hs4
  have HB4 := Lib.hid (HD.out.trans (hb4.mono HD.out.size)); clear hb4
  have HRX := Lib.hid ((HB4.out.block w0.heap.size zr).trans HR.out)
  have r0 := cell_of (j := 0) HRX.out rfl
  have r1 := cell_of (j := 1) HRX.out rfl
  have r2 := cell_of (j := 2) HRX.out rfl
  have r3 := cell_of (j := 3) HRX.out rfl
  have r4 := cell_of (j := 4) HRX.out rfl
  have r5 := fun i => unfrozen_of_block HRX.out i
  have zrr : w0.heap.size < w4.heap.size := heap_lt HRX.out
  simp only [Tr.k, Tr.tx, Tr.op, Tr.fl, Tr.subs, List.length_cons, List.length_map]
  go_wp2
  have hr6 := set5_at (a := .int .i64 13) (b := .string ByteArray.empty) (c := .int .i64 0) (d := .bool false) (e := .slice a4 (l.length + 1) c4) HRX.out
  have v0 := cell_of (j := 0) hr6 rfl
  have v1 := cell_of (j := 1) hr6 rfl
  have v2 := cell_of (j := 2) hr6 rfl
  have v3 := cell_of (j := 3) hr6 rfl
  have v4 := cell_of (j := 4) hr6 rfl
  have hBB := HB1.out.trans (HB4.out.mono HB1.out.size)
  have HS5 : Subs w4 (fun k => (w1.alloc (.cells #[.int .i64 0, .string ByteArray.empty, .int .i64 0, .bool false, .slice none 0 0] 24)).heap.size ≤ k) (t1 :: l.map argT) (.slice a4 (l.length + 1) c4) := by simpa [Tr.subs] using HS4.out
  refine bodyPost_ret (v := .agg #[.int .i64 13, .string ByteArray.empty, .int .i64 0, .bool false, .slice a4 (l.length + 1) c4]) (by simp [results, Tryz.results13, go_sem, v0, v1, v2, v3, v4]) rfl ⟨⟨_, rfl, ?_⟩, below_set5 hBB (Nat.le_refl _)⟩
  exact HS5.keep (fun k hk _ => by have hk' := hk; simp at hk'; show w0.heap.size ≤ k; omega) (fun k hk _ => heap_set5 (by have hk' := hk; simp at hk'; omega))

theorem ok_bnd {t : Tr} (h : Ok t) : Bnd 6 t := by
  have leaf : ∀ k tx op fl, Bnd 6 (.mk k tx op fl []) := fun k tx op fl => .mk _ (by simp [Tr.subs]) (by simp [Tr.subs])
  have arg : ∀ t, Bnd 6 t → Bnd 6 (.mk 32 ByteArray.empty 0 false [t]) := fun t ht => .mk _ (by simp [Tr.subs]) (by simpa [Tr.subs] using ht)
  induction h with
  | null => exact leaf _ _ _ _
  | boolean fl => exact leaf _ _ _ _
  | number tx => exact leaf _ _ _ _
  | str tx op h0 h4 => exact leaf _ _ _ _
  | self => exact leaf _ _ _ _
  | dollar => exact leaf _ _ _ _
  | var tx => exact leaf _ _ _ _
  | unary op t1 h0 h4 a1 ih1 => exact .mk _ (by simp [Tr.subs]) (by simpa [Tr.subs] using ih1)
  | binary op t1 t2 h0 h4 a1 a2 ih1 ih2 => exact .mk _ (by simp [Tr.subs]) (by simpa [Tr.subs] using ⟨ih1, ih2⟩)
  | if2 t1 t2 a1 a2 ih1 ih2 => exact .mk _ (by simp [Tr.subs]) (by simpa [Tr.subs] using ⟨ih1, ih2⟩)
  | if3 t1 t2 t3 a1 a2 a3 ih1 ih2 ih3 => exact .mk _ (by simp [Tr.subs]) (by simpa [Tr.subs] using ⟨ih1, ih2, ih3⟩)
  | brace t1 t2 a1 a2 ih1 ih2 => exact .mk _ (by simp [Tr.subs]) (by simpa [Tr.subs] using ⟨ih1, ih2⟩)
  | index t1 t2 a1 a2 ih1 ih2 => exact .mk _ (by simp [Tr.subs]) (by simpa [Tr.subs] using ⟨ih1, ih2⟩)
  | dot tx t1 a1 ih1 => exact .mk _ (by simp [Tr.subs]) (by simpa [Tr.subs] using ih1)
  | error t1 a1 ih1 => exact .mk _ (by simp [Tr.subs]) (by simpa [Tr.subs] using ih1)
  | parens t1 a1 ih1 => exact .mk _ (by simp [Tr.subs]) (by simpa [Tr.subs] using ih1)
  | apply t1 l hl a1 aa ih1 iha =>
    refine .mk _ (by simp [Tr.subs]; omega) fun s hs => ?_
    rcases List.mem_cons.1 (show s ∈ t1 :: l.map _ from hs) with rfl | hs
    · exact ih1
    · obtain ⟨t, ht, rfl⟩ := List.mem_map.1 hs
      exact arg t (iha t ht)
  | array l hl aa iha => exact .mk _ hl iha
  | object l hl hf aa iha =>
    refine .mk _ hl fun s hs => ?_
    rcases (hf s hs).2.2 with ⟨t, ht⟩ | ⟨tx, o, t, _, ht⟩
    · have h1 : s.subs = [t] := by rw [ht]; rfl
      refine .mk _ (by rw [h1]; simp) fun u hu => ?_
      rw [h1] at hu
      obtain rfl : u = t := by simpa using hu
      exact iha s hs u (by rw [h1]; rfl)
    · have h1 : s.subs = [.mk 4 tx o false [], t] := by rw [ht]; rfl
      refine .mk _ (by rw [h1]; simp) fun u hu => ?_
      rw [h1] at hu
      simp only [List.mem_cons, List.not_mem_nil, or_false] at hu
      rcases hu with rfl | rfl
      · exact leaf _ _ _ _
      · exact iha s hs u (by rw [h1]; rfl)
theorem node_any {w : World} {S : Nat → Prop} {t : Tr} {y : TypeId} {b : Nat} (h : Ast w S t y b) : Bnd 6 t → NodeAt w t y b := by
  have kid : ∀ {t s : Tr}, Bnd 6 t → s ∈ t.subs → Bnd 6 s := fun h hs => h.sub _ hs
  induction h with
  | null b p0 p1 n0 n1 hS hb => exact fun _ => node_null hb
  | boolean b fl p0 p1 n0 n1 hS hb => exact fun _ => node_boolean hb
  | number b tx p0 p1 n0 n1 hS hb => exact fun _ => node_number hb
  | str b tx op p0 p1 n0 n1 hS hb => exact fun _ => node_str hb
  | self b p0 p1 n0 n1 hS hb => exact fun _ => node_self hb
  | dollar b p0 p1 n0 n1 hS hb => exact fun _ => node_dollar hb
  | var b tx p0 p1 n0 n1 hS hb => exact fun _ => node_var hb
  | @unary S S1 b op p0 p1 n0 n1 t1 y1 b1 hS s1 hb a1 ih1 => exact fun h => node_unary hb (ih1 (kid h (by simp [Tr.subs])))
  | @binary S S1 S2 b op p0 p1 p2 n0 n1 n2 t1 t2 y1 y2 b1 b2 hS s1 s2 d12 hb a1 a2 ih1 ih2 => exact fun h => node_binary hb (ih1 (kid h (by simp [Tr.subs]))) (ih2 (kid h (by simp [Tr.subs])))
  | @if2 S S1 S2 b p0 p1 p2 p3 n0 n1 n2 n3 t1 t2 y1 y2 b1 b2 hS s1 s2 d12 hb a1 a2 ih1 ih2 => exact fun h => node_if2 hb (ih1 (kid h (by simp [Tr.subs]))) (ih2 (kid h (by simp [Tr.subs])))
  | @if3 S S1 S2 S3 b p0 p1 p2 p3 n0 n1 n2 n3 t1 t2 t3 y1 y2 y3 b1 b2 b3 hS s1 s2 s3 d12 d13 d23 hb a1 a2 a3 ih1 ih2 ih3 => exact fun h => node_if3 hb (ih1 (kid h (by simp [Tr.subs]))) (ih2 (kid h (by simp [Tr.subs]))) (ih3 (kid h (by simp [Tr.subs])))
  | @brace S S1 S2 b p0 p1 n0 n1 t1 t2 y1 y2 b1 b2 hS s1 s2 d12 hb a1 a2 ih1 ih2 => exact fun h => node_brace hb (ih1 (kid h (by simp [Tr.subs]))) (ih2 (kid h (by simp [Tr.subs])))
  | @index S S1 S2 b p0 p1 p2 p3 n0 n1 n2 n3 t1 t2 y1 y2 b1 b2 hS s1 s2 d12 hb a1 a2 ih1 ih2 => exact fun h => node_index hb (ih1 (kid h (by simp [Tr.subs]))) (ih2 (kid h (by simp [Tr.subs])))
  | @dot S S1 b c tx p0 p1 p2 p3 n0 n1 n2 n3 t1 y1 b1 hS hc hbc s1 hb hid a1 ih1 => exact fun h => node_dot hb hid (ih1 (kid h (by simp [Tr.subs])))
  | @error S S1 b p0 p1 n0 n1 t1 y1 b1 hS s1 hb a1 ih1 => exact fun h => node_error hb (ih1 (kid h (by simp [Tr.subs])))
  | @parens S S1 b p0 p1 p2 n0 n1 n2 t1 y1 b1 hS s1 hb a1 ih1 => exact fun h => node_parens hb (ih1 (kid h (by simp [Tr.subs])))
  | @apply S S1 SS b g cur p0 p1 p2 p3 p4 p5 n0 n1 n2 n3 n4 n5 cap tc a t1 y1 b1 l ys bs ps ns hS s1 hg hcap hr ss dd hb a1 aa ih1 iha =>
    intro h
    have hl : l.length ≤ 5 := by have := h.len; simp [Tr.subs] at this; omega
    exact node_apply (fun h0 => ⟨(hg h0).1, (hg h0).2.2.2⟩) hr hb hl (ih1 (kid h (by simp [Tr.subs]))) (fun i t ht => iha i t ht (kid (kid h (s := argT t) (List.mem_cons_of_mem _ (List.mem_map.2 ⟨t, List.mem_of_getElem? ht, rfl⟩))) (by simp [argT, Tr.subs])))
  | @array S SS b g cur p0 p1 p2 n0 n1 n2 cap tc a l ys bs ps ns hS hg hcap hr ss dd hb aa iha =>
    intro h
    exact node_array (fun h0 => ⟨(hg h0).1, (hg h0).2.2.2⟩) hr hb h.len (fun i t ht => iha i t ht (kid h (List.mem_of_getElem? ht)))
  | @object S S1 S2 b g cur p0 p1 p2 n0 n1 n2 cap tc a l F hS hg hcap hr ss d12 dd di hb a1 a2 ih1 ih2 =>
    intro h
    refine node_object (fun h0 => ⟨(hg h0).1, (hg h0).2.2.2⟩) hb h.len (fun i t ht => ?_)
    have hbt : Bnd 6 t := kid h (List.mem_of_getElem? ht)
    rcases hr i t ht with ⟨c, u, e, hid, hs, _, _, hh, hc⟩ | ⟨t1, t2, e, hid, hc⟩
    · have hu : t.subs = [u] := by rw [e]; rfl
      have N2 := ih2 i t u ht (by rw [hu]; rfl) (kid hbt (by rw [hu]; simp))
      refine ⟨(F i).rowId t.op t.fl c, rfl, hc, by simp [Fld.rowId, Value.oneCell'], fun w' hw => ?_⟩
      rw [e]
      exact field_id hh N2 w' hw
    · have hu : t.subs = [t1, t2] := by rw [e]; rfl
      have N1 := ih1 i 39 t.op t.fl t1 t2 (by rw [ht]; congr) (kid hbt (by rw [hu]; simp))
      have N2 := ih2 i t t2 ht (by rw [hu]; rfl) (kid hbt (by rw [hu]; simp))
      refine ⟨(F i).rowStr t.op t.fl, rfl, hc, by simp [Fld.rowStr, Value.oneCell'], fun w' hw => ?_⟩
      rw [e]
      exact field_str N1 N2 w' hw
end Go.Proofs.YtlgajopaokjjaaaGreatFmt
