/-
  impl.fields, and impl.node at objects. Conditions: the number of fields.
-/
import Derived.Test.YtlgajopaokjjaaaGreatFmtNode2
import Derived.Test.YtlgajopaokjjaaaGreatFmtInfoIN
import Derived.Deep.MidRow
namespace Go.Proofs.YtlgajopaokjjaaaGreatFmt
open Go.ChangeShapes Go.WideShapes Go.ChangeAt Go.RowKit Go.Joins
attribute [local go_sem] ta_Apply ta_ApplyBrace ta_Array ta_ArrayComp ta_Assert ta_Binary ta_Conditional ta_Dollar ta_Error ta_Function ta_Import ta_ImportBin ta_ImportStr ta_InSuper ta_Index ta_LiteralBoolean ta_LiteralNull ta_LiteralNumber ta_LiteralString ta_Local ta_Object ta_ObjectComp ta_Parens ta_Self ta_Slice ta_SuperIndex ta_Unary ta_Var

theorem below_setCells {B b : Nat} {a : World} (hb : B ≤ b) : ∀ (vs : List Value) (o : Nat) {w : World}, Below B a w → Below B a (w.setCells b o vs)
  | [], _, _, h => h
  | _ :: r, o, _, h => below_setCells hb r (o + 1) (h.setCell (by simpa using hb) _)
theorem there_block {w : World} {b : Nat} {cs : Array Value} {t : TypeId} (h : w.heap[b]? = some (.cells cs t)) : w.there b 0 cs.size := fun j hj => by
  rw [Nat.zero_add]
  exact ⟨by rw [cell_of h (v := cs[j]) (Array.getElem?_eq_getElem hj)]; rfl, unfrozen_of_block h j⟩
/-- A field in a row, and what impl.field makes of it. -/
def FieldAt (w : World) (cur : Array Value) (i : Nat) (t : Tr) : Prop :=
  ∃ cs : List Value, cs.length = 18 ∧ (∀ k c, cs[k]? = some c → cur[i * 18 + k]? = some c) ∧ (∀ u ∈ cs, u.oneCell' = true) ∧
    ∀ w', Below w.heap.size w w' → Calls Tryz.prog 34 #[.agg cs.toArray] w' fun e w'' => TreeBack w' t e w'' ∧ Below w'.heap.size w' w''
set_option maxRecDepth 100000 in
set_option maxHeartbeats 8000000 in
theorem fields_any {l : List Tr} {w w0 : World} {g cap : Nat} {a : Option Addr} {cur : Array Value} (hg : 0 < l.length → a = some ⟨g, 0, none⟩ ∧ w0.heap[g]? = some (.cells cur 155)) (hw : Below w.heap.size w w0) (hl : l.length ≤ 6) (FF : ∀ i t, l[i]? = some t → FieldAt w cur i t) :
    Calls Tryz.prog 28 #[.slice a l.length cap] w0 fun e w' => ListBack w0 l e w' ∧ Below w0.heap.size w0 w' := by
  obtain ⟨i0, hi0, hz0, hs0, hb0⟩ := info_parts infoIN
  have HF := Lib.hid FF; have HA := Lib.hid hg; have HW := Lib.hid hw; clear FF hg hw
  have HU := Lib.hid (show (Tryz.prog.info? 155).map (·.size) = some 18 from by kernel_rfl)
  go_enter Tryz.func28, Tryz.ntmps28
  go_wp2_with fail
  go_loopw [3, 9] (fun v i wr => ∃ j, j ≤ l.length ∧ i = .int .i64 (j : Nat) ∧ OwnT (fun k => w0.heap.size ≤ k) w0.heap.size 24 wr v (l.take j) ∧ Below w0.heap.size w0 wr) (fun _ i _ => l.length - (intOf i).toNat)
  case atStart =>
    exact ⟨0, Nat.zero_le _, rfl, ownT_empty (Nat.le_refl _) (heap_alloc_new _ _), below_alloc1 _ _⟩
  case round =>
    obtain ⟨j, hj, rfl, hO, hB⟩ := hrel
    obtain ⟨va, vc, rfl⟩ := hO.form
    rw [List.length_take, Nat.min_eq_left hj] at *
    by_cases hjl : j < l.length
    · obtain ⟨p, hp⟩ : ∃ p, l[j]? = some p := ⟨_, List.getElem?_eq_getElem hjl⟩
      obtain ⟨rfl, hgb⟩ := HA.out (by omega)
      obtain ⟨cs, hcl, hcc, h1c, hn⟩ := HF.out j p hp
      have hgr := (hB.block g (heap_lt hgb)).trans hgb
      have HRG := Lib.hid (show wr.rangeAt g (j * 18) cs from fun k c hk => cell_of hgr (hcc k c hk))
      have HCL := Lib.hid (show (Tryz.prog.info? 155).map (·.size) = some cs.length from by rw [HU.out, hcl])
      have HCA := Lib.hid (show (Tryz.prog.info? 155).map (·.size) = some cs.toArray.size from by rw [HU.out]; simp [hcl])
      have HL18 := Lib.hid hcl
      have H1C := Lib.hid (all_oneCell_toArray h1c)
      have HN := Lib.hid hn; clear hn hgb hgr hcc h1c hcl
      have HP := Lib.hid hp; clear hp
      obtain ⟨xs, hown, hcs⟩ := hO
      rw [List.length_take, Nat.min_eq_left hj] at hown
      have HO := Lib.hid hown; clear hown
      have HC := Lib.hid hcs; clear hcs
      have zw := hB.size
      have hth : (wr.alloc (Obj.cells #[.pointer none, .pointer none, .slice none 0 0, .slice none 0 0, .slice none 0 0, .slice none 0 0, .nilIface, .nilIface, .nilIface, .pointer none, .string ⟨#[]⟩, .int .i64 0, .int .i64 0, .int .i64 0, .int .i64 0, .int .i64 0, .int .i64 0, .bool false] 155)).there wr.heap.size 0 cs.toArray.size := by
        have := there_block (heap_alloc_new wr (Obj.cells #[.pointer none, .pointer none, .slice none 0 0, .slice none 0 0, .slice none 0 0, .slice none 0 0, .nilIface, .nilIface, .nilIface, .pointer none, .string ⟨#[]⟩, .int .i64 0, .int .i64 0, .int .i64 0, .int .i64 0, .int .i64 0, .int .i64 0, .bool false] 155))
        have e : cs.toArray.size = 18 := by simp [HL18.out]
        rw [e]
        exact this
      have HTH := Lib.hid hth; clear hth
      have HD := Lib.hid (below_setCells (b := wr.heap.size) (Nat.le_refl _) cs.toArray.toList 0 (below_alloc1 wr (Obj.cells #[.pointer none, .pointer none, .slice none 0 0, .slice none 0 0, .slice none 0 0, .slice none 0 0, .nilIface, .nilIface, .nilIface, .pointer none, .string ⟨#[]⟩, .int .i64 0, .int .i64 0, .int .i64 0, .int .i64 0, .int .i64 0, .int .i64 0, .bool false] 155)))
      have HR2 := Lib.hid (show ((wr.alloc (Obj.cells #[.pointer none, .pointer none, .slice none 0 0, .slice none 0 0, .slice none 0 0, .slice none 0 0, .nilIface, .nilIface, .nilIface, .pointer none, .string ⟨#[]⟩, .int .i64 0, .int .i64 0, .int .i64 0, .int .i64 0, .int .i64 0, .int .i64 0, .bool false] 155)).setCells wr.heap.size 0 cs.toArray.toList).rangeAt wr.heap.size 0 cs from World.rangeAt_setCells_same _ _ _ _ (by simpa using HTH.out))
      have HWW := Lib.hid (HW.out.trans ((hB.mono HW.out.size).trans (HD.out.mono (Nat.le_trans HW.out.size hB.size))))
      have HB := Lib.hid hB; clear hB
      go_wp2_with (first
        | (refine wpList_load_mid rfl 155 (.tmp 11) rfl g (j * 18) rfl cs _ HRG.out Tryz.underlying155 rfl HCL.out ?_)
        | (refine wpList_store_mid rfl 155 (.tmp 5) (.tmp 12) rfl wr.heap.size 0 cs.toArray rfl rfl HTH.out HCA.out H1C.out ?_; obtain ⟨w2, hw2⟩ : ∃ w2, (wr.alloc (Obj.cells #[.pointer none, .pointer none, .slice none 0 0, .slice none 0 0, .slice none 0 0, .slice none 0 0, .nilIface, .nilIface, .nilIface, .pointer none, .string ⟨#[]⟩, .int .i64 0, .int .i64 0, .int .i64 0, .int .i64 0, .int .i64 0, .int .i64 0, .bool false] 155)).setCells wr.heap.size 0 cs.toArray.toList = w2 := ⟨_, rfl⟩; rw [hw2] at HD HR2 HWW ⊢; clear hw2)
        | (refine wpList_load_mid rfl 155 (.tmp 5) rfl wr.heap.size 0 rfl cs _ HR2.out Tryz.underlying155 rfl HCL.out ?_))
      refine (HN.out _ HWW.out).mono ?_
      rintro e w4 ⟨⟨u4, rfl, hs4⟩, hb4⟩
      obtain ⟨a4, c40, rfl, hc4⟩ := hs4.form
      have HS4 := Lib.hid hs4; clear hs4
      have HB4 := Lib.hid (HD.out.trans (hb4.mono HD.out.size)); clear hb4
      have HB5 := Lib.hid (HB4.out.trans ((below_alloc1 w4 (.cells #[.int .i64 p.k, .string p.tx, .int .i64 p.op, .bool p.fl, .slice a4 p.subs.length c40] 24)).mono HB4.out.size))
      have HO5 := Lib.hid (ownsRow_below HO.out HB5.out)
      have HN5 := Lib.hid (nV_one HS4.out)
      have z4 : wr.heap.size ≤ w4.heap.size := HB4.out.size
      have z2 : wr.heap.size ≤ w2.heap.size := HD.out.size
      go_wp2_with (at_builtin; refine wpList_append_lies _ rfl (.tmp 13) (.tmp 16) 22 rfl w0.heap.size 24 i0 (.agg #[.int .i64 0, .string ByteArray.empty, .int .i64 0, .bool false, .slice none 0 0]) 5 64 Tryz.underlying22 hi0 hz0 hs0 hb0 rfl (by omega) (.slice va j vc) j xs rfl HO5.out ⟨w4.heap.size, 0, none⟩ 1 1 (nV p (.slice a4 p.subs.length c40)) rfl rfl (news5 rfl) HN5.out (by omega) (by unfold maxLen; omega) (by omega) (by simp; omega) _ rfl ?_; intro g6 cap1 w6 hown6 hgrow6 hat6 hlt6)
      have hB5 := HB.out.trans (HB5.out.mono HB.out.size)
      have hS5 := (HS4.out.bel (below_alloc1 w4 (.cells #[.int .i64 p.k, .string p.tx, .int .i64 p.op, .bool p.fl, .slice a4 p.subs.length c40] 24))).mono (T := fun k => w0.heap.size ≤ k ∧ (Value.slice va j vc).ownBlock ≠ some k) (fun k hk _ => ⟨by omega, fun e => by have := (HO.out.lt k e).2; omega⟩)
      have hO6 := OwnT.push (S := fun k => w0.heap.size ≤ k) (HC.out.below HB5.out) hS5 hown6 (by rw [List.length_take, Nat.min_eq_left hj]) hgrow6 hat6
      rw [← take_snoc HP.out] at hO6
      have HO6 := Lib.hid hO6
      have HB6 := Lib.hid (hB5.grown hgrow6 hB5.size (fun k hk => by have := (HO5.out.lt k hk).1; omega))
      clear hB5 hS5 hO6 hown6 hgrow6 hat6
      go_wp2
      go_roundw
      case rel => exact ⟨j + 1, by omega, by go_num, HO6.out, HB6.out⟩
      case measure => simp [intOf]; omega
    · obtain rfl : j = l.length := by omega
      rw [List.take_length] at hO
      have HO := Lib.hid hO; clear hO
      go_wp2
      go_ret
      refine ⟨⟨_, rfl, HO.out.subs fun k hk => ?_⟩, hB⟩
      rcases hk with hk | hk
      · exact hk
      · obtain ⟨xs, ho, _⟩ := HO.out
        exact (ho.lt k hk).1
set_option maxRecDepth 100000 in
set_option maxHeartbeats 8000000 in
theorem node_object {w : World} {b g : Nat} {cur : Array Value} {p0 p1 p2 : Option Addr} {n0 n1 n2 cap : Nat} {tc : Bool} {a : Option Addr} {l : List Tr}
    (hg : 0 < l.length → a = some ⟨g, 0, none⟩ ∧ w.heap[g]? = some (.cells cur 155))
    (hb : w.heap[b]? = some (.cells #[.slice a l.length cap, .slice p2 0 n2, .slice p0 0 n0, .pointer none, .slice p1 0 n1, .pointer none, .string ByteArray.empty, .int .i64 0, .int .i64 0, .int .i64 0, .int .i64 0, .bool tc] 133)) (hl : l.length ≤ 6) (FF : ∀ i t, l[i]? = some t → FieldAt w cur i t) : NodeAt w (.mk 20 ByteArray.empty 0 false l) 128 b := by
  intro w0 hw
  have HB := Lib.hid ((hw.block b (heap_lt hb)).trans hb)
  have zb : b < w0.heap.size := heap_lt HB.out
  have HW := Lib.hid hw
  have HG := Lib.hid hg; have HF := Lib.hid FF
  clear hb hw hg FF
  go_enter Tryz.func13, Tryz.ntmps13
  go_wp2_with fail
  refine (simple_no 128 (by simp) _ _).mono ?_
  rintro e w1 ⟨rfl, hb1⟩
  have HR := Lib.hid ((hb1.block w0.heap.size (by simp)).trans (heap_alloc_new w0 (.cells #[.int .i64 0, .string ByteArray.empty, .int .i64 0, .bool false, .slice none 0 0] 24)))
  have HB1 := Lib.hid ((below_alloc1 w0 (.cells #[.int .i64 0, .string ByteArray.empty, .int .i64 0, .bool false, .slice none 0 0] 24)).trans (hb1.mono (by simp)))
  have zr : w0.heap.size < w1.heap.size := heap_lt HR.out
  have zb1 : b < w1.heap.size := by omega
  have q0 := (World.cell?_of_block (w := w0) (w' := w1) (a := ⟨b, 0, none⟩) (HB1.out.block b zb)).trans (cell_of (j := 0) HB.out rfl)
  have HD := Lib.hid (below_alloc1 w1 (.cells #[.int .i64 0, .string ByteArray.empty, .int .i64 0, .bool false, .slice none 0 0] 24))
  have HB2 := Lib.hid (HB1.out.trans (HD.out.mono HB1.out.size))
  have HW2 := Lib.hid (HW.out.trans (HB2.out.mono HW.out.size))
  have HG2 := Lib.hid (fun h0 => (⟨(HG.out h0).1, (HW2.out.block g (heap_lt (HG.out h0).2)).trans (HG.out h0).2⟩ : a = some ⟨g, 0, none⟩ ∧ (w1.alloc (.cells #[.int .i64 0, .string ByteArray.empty, .int .i64 0, .bool false, .slice none 0 0] 24)).heap[g]? = some (.cells cur 155)))
  clear hb1
  go_wp2_with fail
  refine (fields_any HG2.out HW2.out hl HF.out).mono ?_
  rintro e w4 ⟨⟨u4, rfl, hs4⟩, hb4⟩
  obtain ⟨a4, c4, rfl, hc4⟩ := hs4.form
  have HS4 := Lib.hid hs4; clear hs4
  have HB4 := Lib.hid (HD.out.trans (hb4.mono HD.out.size)); clear hb4
  go_wp2_with fail
  refine (one_any 20 0 ByteArray.empty false a4 l.length c4 _).mono ?_
  rintro e w8 ⟨rfl, hb8⟩
  have HB8 := Lib.hid (HB4.out.trans (hb8.mono HB4.out.size))
  have HS8 := Lib.hid (HS4.out.bel hb8)
  clear hb8
  have HRX := Lib.hid ((HB8.out.block w0.heap.size zr).trans HR.out)
  have r0 := cell_of (j := 0) HRX.out rfl
  have r1 := cell_of (j := 1) HRX.out rfl
  have r2 := cell_of (j := 2) HRX.out rfl
  have r3 := cell_of (j := 3) HRX.out rfl
  have r4 := cell_of (j := 4) HRX.out rfl
  have r5 := fun i => unfrozen_of_block HRX.out i
  have zrr : w0.heap.size < w8.heap.size := heap_lt HRX.out
  go_wp2
  have hr6 := set5_at (a := .int .i64 20) (b := .string ByteArray.empty) (c := .int .i64 0) (d := .bool false) (e := .slice a4 l.length c4) HRX.out
  have v0 := cell_of (j := 0) hr6 rfl
  have v1 := cell_of (j := 1) hr6 rfl
  have v2 := cell_of (j := 2) hr6 rfl
  have v3 := cell_of (j := 3) hr6 rfl
  have v4 := cell_of (j := 4) hr6 rfl
  have hBB := HB1.out.trans (HB8.out.mono HB1.out.size)
  refine bodyPost_ret (v := .agg #[.int .i64 20, .string ByteArray.empty, .int .i64 0, .bool false, .slice a4 l.length c4]) (by simp [results, Tryz.results13, go_sem, v0, v1, v2, v3, v4]) rfl ⟨⟨_, rfl, ?_⟩, below_set5 hBB (Nat.le_refl _)⟩
  exact HS8.out.keep (fun k hk _ => by have hk' := hk; simp at hk'; show w0.heap.size ≤ k; omega) (fun k hk _ => heap_set5 (by have hk' := hk; simp at hk'; omega))
end Go.Proofs.YtlgajopaokjjaaaGreatFmt
