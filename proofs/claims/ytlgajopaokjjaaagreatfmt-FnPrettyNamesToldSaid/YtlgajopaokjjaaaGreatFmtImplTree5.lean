/-
  impl.tree, of calls. Conditions: spec.Tree's.
-/
import Derived.Test.YtlgajopaokjjaaaGreatFmtImplTree4
namespace Go.Proofs.YtlgajopaokjjaaaGreatFmt
open Go.ChangeShapes Go.WideShapes Go.ChangeAt Go.RowKit Go.Joins

set_option maxRecDepth 100000 in
set_option maxHeartbeats 8000000 in
theorem tree_apply (t1 : Tr) (l : List Tr) (hl : l.length ≤ 5) (T1 : TreeOk t1) (TT : ∀ t ∈ l, TreeOk t) : TreeOk (.mk 13 ByteArray.empty 0 false (t1 :: l.map fun t => .mk 32 ByteArray.empty 0 false [t])) := by
  intro S w u hs
  obtain ⟨a, cap, e0, hcap⟩ := hs.form
  have e1 : u = .slice a (l.length + 1) cap := by rw [e0]; simp [Tr.subs]
  subst e1
  have hs : Subs w S (t1 :: l.map fun t => .mk 32 ByteArray.empty 0 false [t]) (.slice a (l.length + 1) cap) := hs
  clear e0
  show Calls Tryz.prog 11 #[.agg #[.int .i64 13, .string ByteArray.empty, .int .i64 0, .bool false, .slice a (l.length + 1) cap]] w _
  obtain ⟨i0, hi0, hz0, hs0, hb0⟩ := info_parts infoCSE
  have hB0 := below_alloc1 w (.cells #[.int .i64 13, .string ByteArray.empty, .int .i64 0, .bool false, .slice a (l.length + 1) cap] 24)
  have HS0 := Lib.hid (hs.bel hB0); clear hs
  have HT := Lib.hid TT; clear TT
  have HX0 := Lib.hid (box5_new0 w (.int .i64 13) (.string ByteArray.empty) (.int .i64 0) (.bool false) (.slice a (l.length + 1) cap) 24)
  go_enter Tryz.func11, Tryz.ntmps11
  go_wp2_with fail
  refine (sub_mk (k := 13) (tx := ByteArray.empty) (op := 0) (fl := false) T1 0 0 rfl rfl HS0.out).mono ?_
  rintro e wb ⟨⟨y1, b1, rfl, hA1⟩, hb1⟩
  have HA1 := Lib.hid (hA1.mono (T := fun k => w.heap.size < k ∧ k < wb.heap.size) (fun k hk _ => ⟨by have := hk.1; simp at this; omega, hk.2⟩)); clear hA1
  have HX := Lib.hid (HX0.out.below hb1)
  have HS := Lib.hid (HS0.out.bel hb1)
  have HBB := Lib.hid (hB0.trans (hb1.mono hB0.size))
  have HZB := Lib.hid HBB.out.size
  have zwb : w.heap.size < wb.heap.size := HX.out.2
  clear hb1 hB0
  go_wp2
  go_loopw [5] (fun i wr => ∃ j v, j ≤ l.length ∧ i = .int .i64 ((j + 1 : Nat) : Int) ∧ Box5 wr w.heap.size (.int .i64 13) (.string ByteArray.empty) (.int .i64 0) (.bool false) (.slice a (l.length + 1) cap) ∧
      wr.heap[wb.heap.size]? = some (.cells #[.iface y1 (.pointer (some ⟨b1, 0, none⟩)), .slice none 0 0, v, .slice none 0 0, .slice none 0 0, .slice none 0 0, .slice none 0 0, .pointer none, .slice none 0 0, .pointer none, .string ByteArray.empty, .int .i64 0, .int .i64 0, .int .i64 0, .int .i64 0, .bool false, .bool false] 82) ∧
      (∃ xs, wr.ownsRow (wb.heap.size + 1) 84 2 v j xs ∧ Elems wr (fun k => wb.heap.size < k ∧ v.ownBlock ≠ some k) (l.take j) xs) ∧ Below wb.heap.size wb wr) (fun i _ => l.length + 1 - (intOf i).toNat)
  case atStart =>
    exact ⟨0, .slice none 0 0, Nat.zero_le _, rfl, HX.out.below (below_alloc1 _ _), alloc_at _ _ _ rfl, ⟨[], ⟨rfl, .inl ⟨rfl, rfl⟩⟩, elems_nil _ _⟩, below_alloc1 _ _⟩
  case round =>
    obtain ⟨j, v, hj, rfl, hX, hA, ⟨xs, hown, hE⟩, hB⟩ := hrel
    have HA := Lib.hid hA
    have zA : wb.heap.size < wr.heap.size := heap_lt hA
    obtain ⟨va, vc, rfl⟩ : ∃ va vc, v = .slice va j vc := by
      rcases hown.2 with ⟨rfl, h0⟩ | ⟨g, c, cur, rfl, _⟩
      · exact ⟨none, 0, by rw [h0]⟩
      · exact ⟨_, c, rfl⟩
    have yy1 : wr.cell? ⟨wb.heap.size, 2, none⟩ = some (.slice va j vc) := cell_of hA rfl
    have yy2 : ∀ i, wr.frozen? ⟨wb.heap.size, i, none⟩ = false := fun i => unfrozen_of_block hA i
    clear hA
    have HX2 := Lib.hid hX
    obtain ⟨⟨x0, x1, x2, x3, x4⟩, xl⟩ := hX
    have HO := Lib.hid hown; clear hown
    have HE := Lib.hid hE; clear hE
    by_cases hjl : j < l.length
    · obtain ⟨p, hp⟩ : ∃ p, l[j]? = some p := ⟨_, List.getElem?_eq_getElem hjl⟩
      have HP := Lib.hid (show (t1 :: l.map fun t => .mk 32 ByteArray.empty 0 false [t])[j + 1]? = some (.mk 32 ByteArray.empty 0 false [p]) by simp [hp])
      obtain ⟨be, off, ue, ea, _, _, hue, c0, c1, c2, c3, c4⟩ := (HS.out.bel hB).at_ HP.out
      subst ea
      obtain ⟨ua, uc, rfl, _⟩ := hue.form
      have HTp := Lib.hid (HT.out p (List.mem_of_getElem? hp))
      have HS1 := Lib.hid (hue.bel (show Below wr.heap.size wr wr.drew from (Below.refl _ _).drew))
      simp only [Tr.k, Tr.tx, Tr.op, Tr.fl, Tr.subs, List.length_cons, List.length_nil, Nat.zero_add] at c0 c1 c2 c3 c4 HS1
      have HQ := Lib.hid hp; clear hp hue
      have ix : (0 : Int) ≤ (j : Int) + 1 := by omega
      go_wp2_with fail
      go_region_law ((first
        | (refine step_call (by rfl) (sub_mk (k := 32) (tx := ByteArray.empty) (op := 0) (fl := false) (l := [p]) HTp.out 0 0 rfl rfl HS1.out) ?_ ?_; (focus (go_simp; done)); rintro e w4 ⟨⟨y, b, rfl, hA4⟩, hb4⟩; refine ⟨_, rfl, ?_⟩; have HA4 := Lib.hid (hA4.mono (T := fun k => wr.heap.size ≤ k ∧ k < w4.heap.size) (fun k hk _ => hk)); clear hA4; have HB4 := Lib.hid ((show Below wr.heap.size wr wr.drew from (Below.refl _ _).drew).trans hb4); clear hb4; have x4' := Lib.hid (HX2.out.below HB4.out); obtain ⟨⟨x0, x1, x2, x3, x4⟩, xl⟩ := x4'.out; have z4 : wb.heap.size < w4.heap.size := Nat.lt_of_lt_of_le zA HB4.out.size; have q1 := ((bcell HB4.out).1 _ _ zA).trans yy1; have q2 := fun i => ((bcell HB4.out).2 _ i zA).trans (yy2 i); have HB5 := Lib.hid (HB4.out.trans ((below_alloc1 w4 (.cells #[.iface y (.pointer (some ⟨b, 0, none⟩)), .slice none 0 0] 84)).mono HB4.out.size)); have HO5 := Lib.hid (ownsRow_below HO.out HB5.out); have HX5 := Lib.hid (HX2.out.below HB5.out))
        | (refine step_append_lies _ rfl (.tmp 68) (.tmp 76) 77 rfl (wb.heap.size + 1) 84 i0 (.agg #[.nilIface, .slice none 0 0]) 2 40 Tryz.underlying77 hi0 hz0 hs0 hb0 rfl (by omega) (.slice va j vc) j xs (by simp [Act.eval]) HO5.out ⟨w4.heap.size, 0, none⟩ 1 1 [.iface y (.pointer (some ⟨b, 0, none⟩)), .slice none 0 0] (by simp [Act.eval]) rfl (World.news_of_block (heap_alloc_new w4 _)) (by simp [Value.oneCell']) (by omega) (by unfold maxLen; omega) (by omega) (by simp; omega) _ rfl ?_; intro g cap1 w6 hown6 hgrow6 hat6 hlt6; have HG6 := Lib.hid hgrow6; have HO6 := Lib.hid hown6; have HT6 := Lib.hid hat6; clear hgrow6 hown6 hat6; have HA6 := Lib.hid ((HG6.out.block _ (by simp; omega) (fun e => by have := (HO5.out.lt _ e.symm).1; omega)).trans ((HB5.out.block _ zA).trans HA.out)); have v1 := cell_of (j := 2) HA6.out rfl; have v2 := fun i => unfrozen_of_block HA6.out i)))
      all_goals
        have hB5 := hB.trans (HB5.out.mono hB.size)
        have hg : wb.heap.size + 1 ≤ g := (HO6.out.lt g rfl).1
        have hE4 := HE.out.push HB4.out HA4.out (fun k hk => ⟨hk.1, hk.2, by omega, fun e => by have := (HO.out.lt k e).2; omega⟩)
        rw [← take_snoc HQ.out] at hE4
        have hE7 := Lib.hid (hE4.keep (w' := w6.setCell ⟨wb.heap.size, 2, none⟩ (.slice (some ⟨g, 0, none⟩) (j + 1) cap1)) (T := fun k => wb.heap.size < k ∧ (Value.slice (some ⟨g, 0, none⟩) (j + 1) cap1).ownBlock ≠ some k) (fun k hk hl => ⟨hk.1, fun e => by
            have e2 : g = k := by simpa [Value.ownBlock] using e
            rcases HT6.out with h | h
            · exact hk.2 (by rw [h, e2])
            · simp at h; omega⟩) (fun k hk hl => (Below.heap_setCell _ _ _ _ (by simp only; omega)).trans ((HG6.out.block k (by simp; omega) (fun e => hk.2 e.symm)).trans (Below.heap_alloc _ _ _ hl))) (by have := HG6.out.size; simp [World.setCell] at this ⊢; omega))
        have hO7 := Lib.hid (ownsRow_keep (w' := w6.setCell ⟨wb.heap.size, 2, none⟩ (.slice (some ⟨g, 0, none⟩) (j + 1) cap1)) HO6.out (fun k hk => Below.heap_setCell _ _ _ _ (by
            have e2 : g = k := by simpa [Value.ownBlock] using hk
            exact fun e => by simp only at e; omega)))
        have hB6 := hB5.grown HG6.out hB5.size (fun k hk => by have := (HO5.out.lt k hk).1; omega)
        have hB7 := Lib.hid (hB6.setCell (p := ⟨wb.heap.size, 2, none⟩) (by simp only; omega) (.slice (some ⟨g, 0, none⟩) (j + 1) cap1))
        have hA7 := Lib.hid (show (w6.setCell ⟨wb.heap.size, 2, none⟩ (.slice (some ⟨g, 0, none⟩) (j + 1) cap1)).heap[wb.heap.size]? = some (.cells #[.iface y1 (.pointer (some ⟨b1, 0, none⟩)), .slice none 0 0, .slice (some ⟨g, 0, none⟩) (j + 1) cap1, .slice none 0 0, .slice none 0 0, .slice none 0 0, .slice none 0 0, .pointer none, .slice none 0 0, .pointer none, .string ByteArray.empty, .int .i64 0, .int .i64 0, .int .i64 0, .int .i64 0, .bool false, .bool false] 82) from by simp [World.setCell, Array.getElem?_modify, HA6.out])
        have hX7 := Lib.hid (show Box5 (w6.setCell ⟨wb.heap.size, 2, none⟩ (.slice (some ⟨g, 0, none⟩) (j + 1) cap1)) w.heap.size (.int .i64 13) (.string ByteArray.empty) (.int .i64 0) (.bool false) (.slice (some ⟨be, off, none⟩) (l.length + 1) cap) from (HX5.out.grown HG6.out (fun e => by have := (HO5.out.lt _ e).1; omega)).setOther (by simp only; omega))
        clear hB5 hB6 hE4
        go_wp2
        go_roundw
        case rel => exact ⟨j + 1, _, by omega, by go_num, hX7.out, hA7.out, ⟨_, hO7.out, hE7.out⟩, hB7.out⟩
        case measure => simp [intOf]; omega
    · obtain rfl : j = l.length := by omega
      rw [List.take_length] at HE
      obtain ⟨g, cur, a', cap', ys, bs, SS, e1, hg, hcap', hr, hss, hdd, haa⟩ := HE.out.row HO.out
      have e1' : va = a' ∧ vc = cap' := by injection e1 with e1 _ e3; exact ⟨e1, e3⟩
      obtain ⟨rfl, rfl⟩ := e1'
      have HH := Lib.hid (And.intro hg (And.intro hcap' (And.intro hr (And.intro hss (And.intro hdd haa)))))
      clear hg hcap' hr hss hdd haa
      go_wp2
      go_ret
      obtain ⟨hg, hcap', hr, hss, hdd, haa⟩ := HH.out
      have hzb := HZB.out
      exact ⟨⟨_, _, rfl, .apply (S1 := fun k => w.heap.size < k ∧ k < wb.heap.size) (SS := SS) wb.heap.size g cur none none none none none none 0 0 0 0 0 0 vc false va ⟨by omega, by omega⟩ (fun k hk => ⟨⟨by omega, by omega⟩, by omega, fun h0 e => by have := (hg h0).2.1; omega⟩) (fun h0 => ⟨(hg h0).1, ⟨by have := (hg h0).2.1; omega, (hg h0).2.2.2.1⟩, by have := (hg h0).2.1; omega, (hg h0).2.2.2.2⟩) hcap' (ps := fun _ => none) (ns := fun _ => 0) hr
        (fun i hi k hk => ⟨⟨by have := (hss i hi k hk).1.1; omega, (hss i hi k hk).2⟩, by have := (hss i hi k hk).1.1; omega, fun e => by
          have h1 := (hss i hi k hk).1.2
          rw [(hg (by omega)).2.2.1] at h1
          exact h1 (by rw [e]), fun h => by have := (hss i hi k hk).1.1; omega⟩) hdd HA.out (HA1.out.bel hB) haa⟩, HBB.out.trans (hB.mono hzb)⟩
end Go.Proofs.YtlgajopaokjjaaaGreatFmt
