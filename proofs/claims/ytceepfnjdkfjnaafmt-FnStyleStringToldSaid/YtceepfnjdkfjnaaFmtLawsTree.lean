/-
  laws.tree: a node's copy: the same tree. Conditions: the lengths of its lists.
-/
import Derived.Test.YtceepfnjdkfjnaaFmtTree
namespace Go.Proofs.YtceepfnjdkfjnaaFmt
open Go.ChangeShapes Go.WideShapes Go.ChangeAt Go.RowKit Go.Joins

theorem infoSN : (Tryf.prog.info? 36).map (fun i => (i.zero, i.size, i.bytes)) = some (some (.agg #[.int .i64 0, .string ByteArray.empty, .int .i64 0, .bool false, .slice none 0 0]), 5, 64) := by kernel_rfl
theorem info_parts {P : Program} {t : TypeId} {z : Value} {n b : Nat} (h : (P.info? t).map (fun i => (i.zero, i.size, i.bytes)) = some (some z, n, b)) : ∃ i, P.info? t = some i ∧ i.zero = some z ∧ i.size = n ∧ i.bytes = b := by
  obtain ⟨i, hi, e⟩ := Option.map_eq_some_iff.1 h
  simp only [Prod.mk.injEq] at e
  exact ⟨i, hi, e.1, e.2.1, e.2.2⟩

theorem heap_lt' {w : World} {b : Nat} {o : Obj} (h : w.heap[b]? = some o) : b < w.heap.size := by
  rcases Nat.lt_or_ge b w.heap.size with hlt | hge
  · exact hlt
  · rw [Array.getElem?_eq_none hge] at h; cases h
/-- A call of a Go function, as one step of a region that draws. -/
theorem step_call {P : Program} {ops : Array Oper} {o : Oper} {a : Act} {w : World} {K : Act → World → Prop} {Q : Exit → Act → World → Prop} {E : Prop} {f : FuncId} {args : Array Value} {R : Ending → World → Prop} (hg : o.guard = none)
    (hc : Calls P f args w R) (hv : (execOp a.eval o).run P w = .ok (.enter f args) w) (hR : ∀ e w', R e w' → ∃ v, e = .returned v ∧ K (a.put o.dst v) w') : if Region.wanted o (yielded ops a.tmps) = true then Oper.wp P o a w K Q else E := by
  have hw : Region.wanted o (yielded ops a.tmps) = true := by simp [Region.wanted, hg]
  rw [if_pos hw]
  unfold Oper.wp
  rw [hv, Oper.upon_enter]
  exact hc.mono fun e w' h => by
    obtain ⟨v, rfl, hk⟩ := hR e w' h
    exact hk
def TreeBack (w : World) (t : Tr) (e : Ending) (w' : World) : Prop := ∃ u', e = .returned (.agg #[.int .i64 t.k, .string t.tx, .int .i64 t.op, .bool t.fl, u']) ∧ Subs w' (fun k => w.heap.size ≤ k) t.subs u'
set_option maxRecDepth 100000 in
set_option maxHeartbeats 4000000 in
theorem lawsTree_any : ∀ (t : Tr) {S : Nat → Prop} {w : World} {u : Value}, Subs w S t.subs u → Bnd 2199023255488 t →
    Calls Tryf.prog 12 #[.agg #[.int .i64 t.k, .string t.tx, .int .i64 t.op, .bool t.fl, u]] w fun e w' => TreeBack w t e w' ∧ Below w.heap.size w w' := by
  intro t
  induction t using Tr.ind with
  | h t ih =>
  intro S w u hs hbd
  obtain ⟨a, cap, rfl, hcap⟩ := hs.form
  obtain ⟨i0, hi0, hz0, hs0, hb0⟩ := info_parts infoSN
  have H := Lib.hid hs; clear hs
  have HI := Lib.hid ih; clear ih
  have HBD := Lib.hid hbd; clear hbd
  have hlen : t.subs.length ≤ 2199023255488 := HBD.out.len
  go_enter Tryf.func12, Tryf.ntmps12
  go_wp2
  go_loopw [18] (fun i wr => ∃ j v, j ≤ t.subs.length ∧ i = .int .i64 (j : Nat) ∧ wr.heap[w.heap.size + 1 + 1]? = some (.cells #[.int .i64 t.k, .string t.tx, .int .i64 t.op, .bool t.fl, v] 36) ∧
      OwnT (fun k => w.heap.size + 1 + 1 < k) (w.heap.size + 1 + 1 + 1) 36 wr v (t.subs.take j) ∧ wr.heap[w.heap.size + 1]? = some (.cells #[.int .i64 0, .string ⟨#[]⟩, .int .i64 0, .bool false, .slice none 0 0] 36) ∧ Below w.heap.size w wr) (fun i _ => t.subs.length - (intOf i).toNat)
  case atStart =>
    refine ⟨0, .slice none 0 0, Nat.zero_le _, rfl, by simpa using heap_alloc_new ((w.alloc _).alloc _) _, ownT_nil, ?_, below_alloc3 _ _ _ _⟩
    have := Below.heap_alloc ((w.alloc (.cells #[.int .i64 t.k, .string t.tx, .int .i64 t.op, .bool t.fl, .slice a t.subs.length cap] 32)).alloc (.cells #[.int .i64 0, .string ⟨#[]⟩, .int .i64 0, .bool false, .slice none 0 0] 36)) (.cells #[.int .i64 t.k, .string t.tx, .int .i64 t.op, .bool t.fl, .slice none 0 0] 36) (w.heap.size + 1) (by simp)
    rw [this]
    simpa using heap_alloc_new (w.alloc (.cells #[.int .i64 t.k, .string t.tx, .int .i64 t.op, .bool t.fl, .slice a t.subs.length cap] 32)) _
  case round =>
    obtain ⟨j, v, hj, rfl, hA, hO, hres, hB⟩ := hrel
    have HA := Lib.hid hA; have HR := Lib.hid hres
    have zA : w.heap.size + 1 + 1 < wr.heap.size := heap_lt' hA
    have zR : w.heap.size + 1 < wr.heap.size := by omega
    have y1 : wr.cell? ⟨w.heap.size + 1 + 1, 4, none⟩ = some v := cell_of hA rfl
    have y2 : ∀ i, wr.frozen? ⟨w.heap.size + 1 + 1, i, none⟩ = false := fun i => unfrozen_of_block hA i
    clear hA hres
    obtain ⟨va, vc, rfl⟩ := hO.form
    rw [List.length_take, Nat.min_eq_left hj] at *
    by_cases hjl : j < t.subs.length
    · obtain ⟨p, hp⟩ : ∃ p, t.subs[j]? = some p := ⟨_, List.getElem?_eq_getElem hjl⟩
      obtain ⟨b, off, u, rfl, hSb, hlt, hu, c0, c1, c2, c3, c4⟩ := (H.out.bel hB).at_ hp
      obtain ⟨ua, uc, rfl, huc⟩ := hu.form
      have HP := Lib.hid hp; clear hp
      obtain ⟨xs, hown, hcs⟩ := hO
      rw [List.length_take, Nat.min_eq_left hj] at hown
      have HO := Lib.hid hown; clear hown
      have HC := Lib.hid hcs; clear hcs
      have HW1 := Lib.hid (show Below wr.heap.size wr (wr.alloc (.cells #[.int .i64 p.k, .string p.tx, .int .i64 p.op, .bool p.fl, .slice ua p.subs.length uc] 32)).drew from (below_alloc1 _ _).drew)
      have HU := Lib.hid (hu.bel HW1.out); clear hu
      have HM := Lib.hid (List.mem_of_getElem? HP.out)
      have HBP := Lib.hid (HBD.out.sub p HM.out)
      go_wp2_with fail
      clear c0 c1 c2 c3 c4
      go_region_law ((first
        | (refine step_call (by rfl) (HI.out p HM.out HU.out HBP.out) ?_ ?_; (focus (go_simp; done)); rintro e w4 ⟨⟨u4, rfl, hs4⟩, hb4⟩; refine ⟨_, rfl, ?_⟩; obtain ⟨a4, c4, rfl, hc4⟩ := hs4.form; have HS4 := Lib.hid hs4; clear hs4; have HB4 := Lib.hid (HW1.out.trans (hb4.mono (by simp))); clear hb4; have z4 : w.heap.size + 1 + 1 < w4.heap.size := Nat.lt_of_lt_of_le zA HB4.out.size; have x1 := ((bcell HB4.out).1 _ _ zA).trans y1; have x2 := fun i => ((bcell HB4.out).2 _ i zA).trans (y2 i); have HB5 := Lib.hid (HB4.out.trans ((below_alloc1 w4 (.cells #[.int .i64 p.k, .string p.tx, .int .i64 p.op, .bool p.fl, .slice a4 p.subs.length c4] 36)).mono HB4.out.size)); have HO5 := Lib.hid (ownsRow_below HO.out HB5.out); have HN5 := Lib.hid (nV_one HS4.out))
        | (refine step_append_lies _ rfl (.tmp 23) (.tmp 26) 34 rfl (w.heap.size + 1 + 1 + 1) 36 i0 (.agg #[.int .i64 0, .string ByteArray.empty, .int .i64 0, .bool false, .slice none 0 0]) 5 64 Tryf.underlying34 hi0 hz0 hs0 hb0 rfl (by omega) (.slice va j vc) j xs (by simp [Act.eval]) HO5.out ⟨w4.heap.size, 0, none⟩ 1 1 (nV p (.slice a4 p.subs.length c4)) (by simp [Act.eval]) rfl (news5 rfl) HN5.out (by omega) (by unfold maxLen; omega) (by omega) (by simp; omega) _ rfl ?_; intro g cap1 w6 hown6 hgrow6 hat6 hlt6; have HG6 := Lib.hid hgrow6; have HO6 := Lib.hid hown6; have HT6 := Lib.hid hat6; clear hgrow6 hown6 hat6; have HA6 := Lib.hid (show w6.heap[w.heap.size + 1 + 1]? = some (.cells #[.int .i64 t.k, .string t.tx, .int .i64 t.op, .bool t.fl, .slice va j vc] 36) from (HG6.out.block _ (by simp; omega) (fun e => by have := (HO5.out.lt _ e.symm).1; omega)).trans ((HB5.out.block _ zA).trans HA.out)); have v1 := cell_of (j := 4) HA6.out rfl; have v2 := fun i => unfrozen_of_block HA6.out i)))
      all_goals
        have hB5 := hB.trans (HB5.out.mono hB.size)
        have hS5 := (HS4.out.bel (below_alloc1 w4 (.cells #[.int .i64 p.k, .string p.tx, .int .i64 p.op, .bool p.fl, .slice a4 p.subs.length c4] 36))).mono (T := fun k => w.heap.size + 1 + 1 < k ∧ (Value.slice va j vc).ownBlock ≠ some k) (fun k hk _ => ⟨by simp at hk; omega, fun e => by have := (HO.out.lt k e).2; simp at hk; omega⟩)
        have hO6 := OwnT.push (S := fun k => w.heap.size + 1 + 1 < k) (HC.out.below HB5.out) hS5 HO6.out (by rw [List.length_take, Nat.min_eq_left hj]) HG6.out HT6.out
        rw [← take_snoc HP.out] at hO6
        have hg : w.heap.size + 1 + 1 + 1 ≤ g := (HO6.out.lt g rfl).1
        have hO7 := Lib.hid (hO6.keep (w' := w6.setCell ⟨w.heap.size + 1 + 1, 4, none⟩ (.slice (some ⟨g, 0, none⟩) (j + 1) cap1)) (fun k hk _ => Below.heap_setCell _ _ _ _ (by
          rcases hk with hk | hk
          · exact fun e => by simp only at e; omega
          · have e2 : g = k := by simpa [Value.ownBlock] using hk
            exact fun e => by simp only at e; omega)))
        have hB6 := hB5.grown HG6.out hB5.size (fun k hk => by have := (HO5.out.lt k hk).1; omega)
        have hB7 := Lib.hid (hB6.setCell (p := ⟨w.heap.size + 1 + 1, 4, none⟩) (by simp only; omega) (.slice (some ⟨g, 0, none⟩) (j + 1) cap1))
        have hA7 := Lib.hid (show (w6.setCell ⟨w.heap.size + 1 + 1, 4, none⟩ (.slice (some ⟨g, 0, none⟩) (j + 1) cap1)).heap[w.heap.size + 1 + 1]? = some (.cells #[.int .i64 t.k, .string t.tx, .int .i64 t.op, .bool t.fl, .slice (some ⟨g, 0, none⟩) (j + 1) cap1] 36) from by simp [World.setCell, Array.getElem?_modify, HA6.out])
        have hR7 := Lib.hid (show (w6.setCell ⟨w.heap.size + 1 + 1, 4, none⟩ (.slice (some ⟨g, 0, none⟩) (j + 1) cap1)).heap[w.heap.size + 1]? = some (.cells #[.int .i64 0, .string ⟨#[]⟩, .int .i64 0, .bool false, .slice none 0 0] 36) from (Below.heap_setCell _ _ _ _ (by simp only; omega)).trans ((HG6.out.block _ (by have := HB5.out.size; omega) (fun e => by have := (HO5.out.lt _ e.symm).1; omega)).trans ((HB5.out.block _ zR).trans HR.out)))
        clear hB5 hS5 hO6 hB6
        go_wp2
        go_roundw
        case rel => exact ⟨j + 1, _, by omega, by go_num, hA7.out, hO7.out, hR7.out, hB7.out⟩
        case measure => simp [intOf]; omega
    · obtain rfl : j = t.subs.length := by omega
      rw [List.take_length] at hO
      have z0 := cell_of (j := 0) HA.out rfl
      have z1 := cell_of (j := 1) HA.out rfl
      have z2 := cell_of (j := 2) HA.out rfl
      have z3 := cell_of (j := 3) HA.out rfl
      have r0 := cell_of (j := 0) HR.out rfl
      have r1 := cell_of (j := 1) HR.out rfl
      have r2 := cell_of (j := 2) HR.out rfl
      have r3 := cell_of (j := 3) HR.out rfl
      have r4 := cell_of (j := 4) HR.out rfl
      have r5 := fun i => unfrozen_of_block HR.out i
      have HO := Lib.hid hO; clear hO
      go_wp2
      obtain ⟨q0, q1, q2, q3, q4⟩ := row5f (hasRow_cells HR.out rfl) (.int .i64 t.k) (.string t.tx) (.int .i64 t.op) (.bool t.fl) (.slice va t.subs.length vc)
      refine bodyPost_ret (v := .agg #[.int .i64 t.k, .string t.tx, .int .i64 t.op, .bool t.fl, .slice va t.subs.length vc]) (by simp [results, Tryf.results12, go_sem, q0, q1, q2, q3, q4]) rfl ⟨⟨_, rfl, ?_⟩, below_set5 hB (by omega)⟩
      refine (HO.out.keep (fun k hk _ => heap_set5 (g := w.heap.size + 1) ?_)).subs (fun k hk => ?_)
      · rcases hk with hk | hk
        · omega
        · obtain ⟨xs, ho, _⟩ := HO.out
          have := (ho.lt k hk).1
          omega
      · rcases hk with hk | hk
        · show w.heap.size ≤ k
          omega
        · obtain ⟨xs, ho, _⟩ := HO.out
          have := (ho.lt k hk).1
          show w.heap.size ≤ k
          omega
end Go.Proofs.YtceepfnjdkfjnaaFmt
