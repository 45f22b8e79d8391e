/-
  impl.node, at arrays. Conditions: the number of elements.
-/
import Derived.Test.YtlgajopaokjjaaaGreatFmtNode2
import Derived.Test.YtlgajopaokjjaaaGreatFmtInfoIN
namespace Go.Proofs.YtlgajopaokjjaaaGreatFmt
open Go.ChangeShapes Go.WideShapes Go.ChangeAt Go.RowKit Go.Joins
attribute [local go_sem] ta_Apply ta_ApplyBrace ta_Array ta_ArrayComp ta_Assert ta_Binary ta_Conditional ta_Dollar ta_Error ta_Function ta_Import ta_ImportBin ta_ImportStr ta_InSuper ta_Index ta_LiteralBoolean ta_LiteralNull ta_LiteralNumber ta_LiteralString ta_Local ta_Object ta_ObjectComp ta_Parens ta_Self ta_Slice ta_SuperIndex ta_Unary ta_Var

theorem alloc_at3 (w : World) (o : Obj) (g : Nat) (hg : g = w.heap.size) : (w.alloc o).heap[g]? = some o := by subst hg; exact heap_alloc_new w o
set_option maxRecDepth 100000 in
set_option maxHeartbeats 8000000 in
theorem node_array {w : World} {b g : Nat} {cur : Array Value} {p0 p1 p2 : Option Addr} {n0 n1 n2 cap : Nat} {tc : Bool} {a : Option Addr} {l : List Tr} {ys bs : Nat → Nat} {ps : Nat → Option Addr} {ns : Nat → Nat}
    (hg : 0 < l.length → a = some ⟨g, 0, none⟩ ∧ w.heap[g]? = some (.cells cur 84))
    (hr : ∀ i, i < l.length → cur[i * 2]? = some (.iface (ys i) (.pointer (some ⟨bs i, 0, none⟩))) ∧ cur[i * 2 + 1]? = some (.slice (ps i) 0 (ns i)))
    (hb : w.heap[b]? = some (.cells #[.slice a l.length cap, .slice p2 0 n2, .slice p0 0 n0, .pointer none, .slice p1 0 n1, .pointer none, .string ByteArray.empty, .int .i64 0, .int .i64 0, .int .i64 0, .int .i64 0, .bool tc] 95)) (hl : l.length ≤ 6) (NN : ∀ i t, l[i]? = some t → NodeAt w t (ys i) (bs i)) : NodeAt w (.mk 18 ByteArray.empty 0 false l) 93 b := by
  intro w0 hw
  obtain ⟨i0, hi0, hz0, hs0, hb0⟩ := info_parts infoIN
  have HB := Lib.hid ((hw.block b (heap_lt hb)).trans hb)
  have zb : b < w0.heap.size := heap_lt HB.out
  have HW := Lib.hid hw
  have HG := Lib.hid (fun h0 => (⟨(hg h0).1, (hw.block g (heap_lt (hg h0).2)).trans (hg h0).2⟩ : a = some ⟨g, 0, none⟩ ∧ w0.heap[g]? = some (.cells cur 84)))
  have HRR := Lib.hid hr; have HNN := Lib.hid NN
  clear hb hw hg hr NN
  go_enter Tryz.func13, Tryz.ntmps13
  go_wp2_with fail
  refine (simple_no 93 (by simp) _ _).mono ?_
  rintro e w1 ⟨rfl, hb1⟩
  have HR := Lib.hid ((hb1.block w0.heap.size (by simp)).trans (heap_alloc_new w0 (.cells #[.int .i64 0, .string ByteArray.empty, .int .i64 0, .bool false, .slice none 0 0] 24)))
  have HB1 := Lib.hid ((below_alloc1 w0 (.cells #[.int .i64 0, .string ByteArray.empty, .int .i64 0, .bool false, .slice none 0 0] 24)).trans (hb1.mono (by simp)))
  have zr : w0.heap.size < w1.heap.size := heap_lt HR.out
  have zb1 : b < w1.heap.size := by omega
  have q0 := (World.cell?_of_block (w := w0) (w' := w1) (a := ⟨b, 0, none⟩) (HB1.out.block b zb)).trans (cell_of (j := 0) HB.out rfl)
  clear hb1
  go_wp2_with fail
  go_loopw [196] (fun i wr => ∃ j v, j ≤ l.length ∧ i = .int .i64 (j : Nat) ∧ wr.heap[w1.heap.size + 1]? = some (.cells #[.int .i64 18, .string ⟨#[]⟩, .int .i64 0, .bool false, v] 24) ∧
      OwnT (fun k => w1.heap.size + 1 < k) (w1.heap.size + 1 + 1) 24 wr v (l.take j) ∧ Below w1.heap.size w1 wr) (fun i _ => l.length - (intOf i).toNat)
  case atStart =>
    exact ⟨0, .slice none 0 0, Nat.zero_le _, rfl, alloc_at3 _ _ _ (by simp), ownT_nil, below_alloc2 _ _ _⟩
  case round =>
    obtain ⟨j, v, hj, rfl, hA, hO, hB⟩ := hrel
    have HA := Lib.hid hA
    have zA : w1.heap.size + 1 < wr.heap.size := heap_lt hA
    have y1 : wr.cell? ⟨w1.heap.size + 1, 4, none⟩ = some v := cell_of hA rfl
    have y2 : ∀ i, wr.frozen? ⟨w1.heap.size + 1, i, none⟩ = false := fun i => unfrozen_of_block hA i
    obtain ⟨va, vc, rfl⟩ := hO.form
    rw [List.length_take, Nat.min_eq_left hj] at *
    by_cases hjl : j < l.length
    · clear hA
      obtain ⟨p, hp⟩ : ∃ p, l[j]? = some p := ⟨_, List.getElem?_eq_getElem hjl⟩
      have HP := Lib.hid hp; clear hp
      obtain ⟨rfl, hgb⟩ := HG.out (by omega)
      have zg := heap_lt hgb
      have hgr := (hB.block g (by omega)).trans ((HB1.out.block g zg).trans hgb)
      have c0 : wr.cell? ⟨g, j * 2, none⟩ = some (.iface (ys j) (.pointer (some ⟨bs j, 0, none⟩))) := cell_of hgr (HRR.out j hjl).1
      have c1 : wr.cell? ⟨g, j * 2 + 1, none⟩ = some (.slice (ps j) 0 (ns j)) := cell_of hgr (HRR.out j hjl).2
      have zgr : g < wr.heap.size := heap_lt hgr
      clear hgb hgr
      obtain ⟨xs, hown, hcs⟩ := hO
      rw [List.length_take, Nat.min_eq_left hj] at hown
      have HO := Lib.hid hown; clear hown
      have HC := Lib.hid hcs; clear hcs
      have HN := Lib.hid (HNN.out j p HP.out)
      have HD := Lib.hid (show Below wr.heap.size wr (wr.alloc (.cells #[.iface (ys j) (.pointer (some ⟨bs j, 0, none⟩)), .slice (ps j) 0 (ns j)] 84)).drew from (below_alloc1 _ _).drew)
      have HWW := Lib.hid (HW.out.trans ((HB1.out.mono HW.out.size).trans ((hB.mono (Nat.le_trans HW.out.size HB1.out.size)).trans (HD.out.mono (Nat.le_trans HW.out.size (Nat.le_trans HB1.out.size hB.size))))))
      have zB := hB.size
      have HB2 := Lib.hid hB; clear hB
      go_wp2_with fail
      clear c0 c1
      go_region_law ((first
        | (refine step_call (by rfl) (HN.out _ HWW.out) ?_ ?_; (focus (go_simp; done)); rintro e w4 ⟨⟨u4, rfl, hs4⟩, hb4⟩; refine ⟨_, rfl, ?_⟩; obtain ⟨a4, c4, rfl, hc4⟩ := hs4.form; have HS4 := Lib.hid hs4; clear hs4; have HB4 := Lib.hid (HD.out.trans (hb4.mono HD.out.size)); clear hb4; have z4 : w1.heap.size + 1 < w4.heap.size := Nat.lt_of_lt_of_le zA HB4.out.size; have x1 := ((bcell HB4.out).1 _ _ zA).trans y1; have x2 := fun i => ((bcell HB4.out).2 _ i zA).trans (y2 i); have HB5 := Lib.hid (HB4.out.trans ((below_alloc1 w4 (.cells #[.int .i64 p.k, .string p.tx, .int .i64 p.op, .bool p.fl, .slice a4 p.subs.length c4] 24)).mono HB4.out.size)); have HO5 := Lib.hid (ownsRow_below HO.out HB5.out); have HN5 := Lib.hid (nV_one HS4.out))
        | (refine step_append_lies _ rfl (.tmp 201) (.tmp 205) 22 rfl (w1.heap.size + 1 + 1) 24 i0 (.agg #[.int .i64 0, .string ByteArray.empty, .int .i64 0, .bool false, .slice none 0 0]) 5 64 Tryz.underlying22 hi0 hz0 hs0 hb0 rfl (by omega) (.slice va j vc) j xs (by simp [Act.eval]) HO5.out ⟨w4.heap.size, 0, none⟩ 1 1 (nV p (.slice a4 p.subs.length c4)) (by simp [Act.eval]) rfl (news5 rfl) HN5.out (by omega) (by unfold maxLen; omega) (by omega) (by simp; omega) _ rfl ?_; intro g6 cap1 w6 hown6 hgrow6 hat6 hlt6; have HG6 := Lib.hid hgrow6; have HO6 := Lib.hid hown6; have HT6 := Lib.hid hat6; clear hgrow6 hown6 hat6; have HA6 := Lib.hid (show w6.heap[w1.heap.size + 1]? = some (.cells #[.int .i64 18, .string ⟨#[]⟩, .int .i64 0, .bool false, .slice va j vc] 24) from (HG6.out.block _ (by simp; omega) (fun e => by have := (HO5.out.lt _ e.symm).1; omega)).trans ((HB5.out.block _ zA).trans HA.out)); have v1 := cell_of (j := 4) HA6.out rfl; have v2 := fun i => unfrozen_of_block HA6.out i)))
      all_goals
        have hB5 := HB2.out.trans (HB5.out.mono HB2.out.size)
        have hS5 := (HS4.out.bel (below_alloc1 w4 (.cells #[.int .i64 p.k, .string p.tx, .int .i64 p.op, .bool p.fl, .slice a4 p.subs.length c4] 24))).mono (T := fun k => w1.heap.size + 1 < k ∧ (Value.slice va j vc).ownBlock ≠ some k) (fun k hk _ => ⟨by simp at hk; omega, fun e => by have := (HO.out.lt k e).2; simp at hk; omega⟩)
        have hO6 := OwnT.push (S := fun k => w1.heap.size + 1 < k) (HC.out.below HB5.out) hS5 HO6.out (by rw [List.length_take, Nat.min_eq_left hj]) HG6.out HT6.out
        rw [← take_snoc HP.out] at hO6
        have hg6 : w1.heap.size + 1 + 1 ≤ g6 := (HO6.out.lt g6 rfl).1
        have hO7 := Lib.hid (hO6.keep (w' := w6.setCell ⟨w1.heap.size + 1, 4, none⟩ (.slice (some ⟨g6, 0, none⟩) (j + 1) cap1)) (fun k hk _ => Below.heap_setCell _ _ _ _ (by
          rcases hk with hk | hk
          · exact fun e => by simp only at e; omega
          · have e2 : g6 = k := by simpa [Value.ownBlock] using hk
            exact fun e => by simp only at e; omega)))
        have hB6 := hB5.grown HG6.out hB5.size (fun k hk => by have := (HO5.out.lt k hk).1; omega)
        have hB7 := Lib.hid (hB6.setCell (p := ⟨w1.heap.size + 1, 4, none⟩) (by simp only; omega) (.slice (some ⟨g6, 0, none⟩) (j + 1) cap1))
        have hA7 := Lib.hid (show (w6.setCell ⟨w1.heap.size + 1, 4, none⟩ (.slice (some ⟨g6, 0, none⟩) (j + 1) cap1)).heap[w1.heap.size + 1]? = some (.cells #[.int .i64 18, .string ⟨#[]⟩, .int .i64 0, .bool false, .slice (some ⟨g6, 0, none⟩) (j + 1) cap1] 24) from by simp [World.setCell, Array.getElem?_modify, HA6.out])
        clear hB5 hS5 hO6 hB6
        go_wp2
        go_roundw
        case rel => exact ⟨j + 1, _, by omega, by go_num, hA7.out, hO7.out, hB7.out⟩
        case measure => simp [intOf]; omega
    · obtain rfl : j = l.length := by omega
      rw [List.take_length] at hO
      have a0 := cell_of (j := 0) hA rfl
      have a1 := cell_of (j := 1) hA rfl
      have a2 := cell_of (j := 2) hA rfl
      have a3 := cell_of (j := 3) hA rfl
      have HRX := Lib.hid ((hB.block w0.heap.size zr).trans HR.out)
      have r0 := cell_of (j := 0) HRX.out rfl
      have r1 := cell_of (j := 1) HRX.out rfl
      have r2 := cell_of (j := 2) HRX.out rfl
      have r3 := cell_of (j := 3) HRX.out rfl
      have r4 := cell_of (j := 4) HRX.out rfl
      have r5 := fun i => unfrozen_of_block HRX.out i
      have zrr : w0.heap.size < wr.heap.size := heap_lt HRX.out
      have HO := Lib.hid hO; clear hO hA
      have HBX := Lib.hid hB; clear hB
      go_wp2
      have hr6 := set5_at (a := .int .i64 18) (b := .string ⟨#[]⟩) (c := .int .i64 0) (d := .bool false) (e := .slice va l.length vc) HRX.out
      have v0 := cell_of (j := 0) hr6 rfl
      have v1 := cell_of (j := 1) hr6 rfl
      have v2 := cell_of (j := 2) hr6 rfl
      have v3 := cell_of (j := 3) hr6 rfl
      have v4 := cell_of (j := 4) hr6 rfl
      have hBB := HB1.out.trans (HBX.out.mono HB1.out.size)
      refine bodyPost_ret (v := .agg #[.int .i64 18, .string ⟨#[]⟩, .int .i64 0, .bool false, .slice va l.length vc]) (by simp [results, Tryz.results13, go_sem, v0, v1, v2, v3, v4]) rfl ⟨⟨_, rfl, ?_⟩, below_set5 hBB (Nat.le_refl _)⟩
      refine (HO.out.keep (fun k hk _ => heap_set5 (g := w0.heap.size) ?_)).subs (fun k hk => ?_)
      · rcases hk with hk | hk
        · omega
        · obtain ⟨xs, ho, _⟩ := HO.out
          have := (ho.lt k hk).1
          omega
      · rcases hk with hk | hk
        · show w0.heap.size ≤ k
          omega
        · obtain ⟨xs, ho, _⟩ := HO.out
          have := (ho.lt k hk).1
          show w0.heap.size ≤ k
          omega
end Go.Proofs.YtlgajopaokjjaaaGreatFmt
