/-
  FnNames: a set of names has those that were added and not removed, each once and in order; adding tells whether the name is new. Conditions: none beyond the row's.
-/
import Derived.Test.YtceepfnjdkfjnaaSpecNames
import Derived.Deep.Slices
import Derived.Deep.Fields
import Derived.ChangeSame
namespace Go.Proofs.Ytceepfnjdkfjnaa
open Go.ChangeShapes Go.WideShapes Go.ChangeAt Go.RowKit Go.Joins Go.Maps Go.Deep

theorem infoT : (Try.prog.info? 27).map (fun i => (i.zero, i.size, i.bytes)) = some (some (.agg #[.int .i64 0, .string ByteArray.empty]), 2, 24) := by kernel_rfl
def stV (x : St) : List Value := [.int .i64 x.1, .string x.2]
def stVs (l : List St) : List Value := l.flatMap stV
theorem stVs_at : ∀ (l : List St) (i : Nat) (x : St), l[i]? = some x → (stVs l)[i * 2]? = some (.int .i64 x.1) ∧ (stVs l)[i * 2 + 1]? = some (.string x.2)
  | [], i, x, h => by simp at h
  | y :: l, 0, x, h => by
    obtain rfl : y = x := by simpa using h
    exact ⟨rfl, rfl⟩
  | y :: l, i + 1, x, h => by
    obtain ⟨h1, h2⟩ := stVs_at l i x (by simpa using h)
    have e : stVs (y :: l) = [.int .i64 y.1, .string y.2] ++ stVs l := rfl
    rw [e, show (i + 1) * 2 = i * 2 + 2 by omega]
    exact ⟨h1, h2⟩
theorem stVs_snoc (l : List St) (x : St) : stVs (l ++ [x]) = stVs l ++ stV x := by simp [stVs]
/-- The list that the law builds. -/
def OwnSt (base : Nat) (w : World) (v : Value) (l : List St) : Prop := w.ownsRow base 27 2 v l.length (stVs l)
theorem OwnSt.steps {base : Nat} {w : World} {v : Value} {l : List St} (h : OwnSt base w v l) : ∃ a cap, v = .slice a l.length cap ∧ StepsAt w l a := by
  rcases h.2 with ⟨rfl, h0⟩ | ⟨g, cap, cur, rfl, _, hh, _⟩
  · refine ⟨none, 0, by rw [h0], fun i op nm hi => ?_⟩
    rw [List.eq_nil_of_length_eq_zero h0] at hi
    simp at hi
  · refine ⟨_, cap, rfl, fun i op nm hi => ?_⟩
    have hadd : ∀ j, (⟨g, 0, none⟩ : Addr).add j = ⟨g, 0 + j, none⟩ := fun j => by unfold Addr.add; split <;> simp_all
    obtain ⟨h1, h2⟩ := stVs_at l i _ hi
    have k1 := h.cells (g := g) rfl _ _ h1
    have k2 := h.cells (g := g) rfl _ _ h2
    rw [hadd] at k1 k2
    exact ⟨g, 0, rfl, (Array.getElem?_eq_some_iff.1 hh).1, k1, k2⟩
theorem OwnSt.bel {base : Nat} {w w' : World} {v : Value} {l : List St} (h : OwnSt base w v l) (hb : Below w.heap.size w w') : OwnSt base w' v l := World.ownsRow.kept h (grown_of_below hb) (by
  rcases h.2 with ⟨rfl, _⟩ | ⟨g, cap, cur, rfl, _⟩
  · exact .inl rfl
  · exact .inr (by simp [Value.ownBlock]))
theorem OwnSt.empty {base : Nat} {w : World} {g : Nat} (hb : base ≤ g) (hg : w.heap[g]? = some (.cells #[] 27)) : OwnSt base w (.slice (some ⟨g, 0, none⟩) 0 0) [] :=
  ⟨rfl, .inr ⟨g, 0, #[], rfl, hb, hg, Nat.le_refl _, by unfold maxLen; omega, rfl, rfl⟩⟩
theorem news2 (w : World) (c0 c1 : Value) (t : TypeId) : ∀ j u, [c0, c1][j]? = some u → (w.alloc (.cells #[c0, c1] t)).cell? ((⟨w.heap.size, 0, none⟩ : Addr).add j) = some u := World.news_of_block (heap_alloc_new w _)

theorem ReadR.cells {w : World} {g n cap : Nat} {xs : List Value} (h : ReadR w (.slice (some ⟨g, 0, none⟩) n cap) xs) : g < w.heap.size ∧ ∀ i x, xs[i]? = some x → w.cell? ⟨g, i, none⟩ = some x := by
  obtain ⟨g', cap', e, _, hl, hc⟩ := h
  injection e with e _ _
  injection e with e
  injection e with e
  subst e
  exact ⟨hl, hc⟩
/-! ### SameTexts -/
theorem sameTexts_any {w : World} {v v' : Value} {ls : List (List UInt8)} (h : ReadR w v (strs ls)) (h' : ReadR w v' (strs ls)) (hm : ls.length ≤ 1000) :
    Calls Try.prog 8 #[v, v'] w fun e w' => e = .returned (.bool true) ∧ Below w.heap.size w w' := by
  obtain ⟨b, cap, rfl, hcap, hlt, hc⟩ := h
  obtain ⟨b', cap', rfl, hcap', hlt', hc'⟩ := h'
  rw [strs_len] at *
  have HC := Lib.hid hc; have HC' := Lib.hid hc'; clear hc hc'
  go_enter Try.func8, Try.ntmps8
  go_wp2
  go_loopw [13] (fun i wr => ∃ j : Nat, j ≤ ls.length ∧ i = .int .i64 j ∧ Below w.heap.size w wr) (fun i _ => ls.length - (intOf i).toNat)
  case atStart => exact ⟨0, Nat.zero_le _, rfl, Below.refl _ _⟩
  case round =>
    obtain ⟨j, hj, rfl, hB⟩ := hrel
    by_cases hjl : j < ls.length
    · obtain ⟨l, hl⟩ : ∃ l, ls[j]? = some l := ⟨_, List.getElem?_eq_getElem hjl⟩
      have hs : (strs ls)[j]? = some (str l) := by rw [strs, List.getElem?_map, hl]; rfl
      have c1 : wr.cell? ⟨b, j, none⟩ = some (.string ⟨l.toArray⟩) := ((bcell hB).1 b j hlt).trans (HC.out j _ hs)
      have c2 : wr.cell? ⟨b', j, none⟩ = some (.string ⟨l.toArray⟩) := ((bcell hB).1 b' j hlt').trans (HC'.out j _ hs)
      have l1 : b < wr.heap.size := by have := hB.size; omega
      have l2 : b' < wr.heap.size := by have := hB.size; omega
      clear hl hs
      go_wp2_with fail
      refine wp_region_quiet_C (Stay wr) (by kernel_rfl) (by kernel_rfl) (stay_start _) ?_
      repeat (first
        | (refine wpQ_skip (by rfl) ?_; simp only [Act.put, List.setIfInBounds_toArray, List.set_cons_zero, List.set_cons_succ])
        | (refine wpQ_value (v := ?_) (by rfl) ?_ ?_; rotate_left; (intro w hw; go_simp; done); simp only [Act.put, List.setIfInBounds_toArray, List.set_cons_zero, List.set_cons_succ])
        | (refine wpQ_value (v := ?_) (by rfl) ?_ ?_; rotate_left; (intro w hw; go_simp; with_reducible rfl); simp only [Act.put, List.setIfInBounds_toArray, List.set_cons_zero, List.set_cons_succ])
        | (refine wpQ_call (f := ?_) (args := ?_) (v := ?_) (by rfl) ?_ ?_ ?_; rotate_left 3; (intro w hw; go_simp; first | with_reducible rfl | (constructor; with_reducible rfl; with_reducible rfl)); (intro w hw; first | fail); simp only [Act.put, List.setIfInBounds_toArray, List.set_cons_zero, List.set_cons_succ]))
      refine wpQuiet_nil ?_
      intro w1 hS1
      go_wp2
      go_roundw
      case rel => exact ⟨j + 1, by omega, by go_num, hB.trans (hS1.1.mono (by have := hB.size; omega))⟩
      case measure => simp [intOf]; omega
    · go_wp2
      go_ret
      exact ⟨rfl, hB⟩

set_option maxRecDepth 100000 in
set_option maxHeartbeats 4000000 in
theorem names_walk {w : World} {l : List St} {a : Option Addr} (h : StepsAt w l a) (cap : Nat) :
    Calls Try.prog 3 #[.slice a l.length cap] w fun e w' => e = .returned (.bool true) ∧ Below w.heap.size w w' := by
  obtain ⟨it, hit, hzt, hst, hbt⟩ := info_parts infoT
  have H := Lib.hid h; clear h
  go_enter Try.func3, Try.ntmps3
  go_wp2_with fail
  refine (fits4_any H.out cap).mono ?_
  rintro e w1 ⟨ht, hb1⟩
  obtain ⟨r, rfl, hr⟩ := ht
  have HB1 := Lib.hid hb1; clear hb1
  cases r
  · clear hr
    go_wp2
    go_ret
    exact ⟨rfl, HB1.out⟩
  have hlen := hr rfl
  clear hr
  have hlow : w.heap.size ≤ w1.heap.size := HB1.out.size
  go_wp2
  go_loopw [3, 17] (fun v i wr => ∃ j : Nat, j ≤ l.length ∧ i = .int .i64 j ∧ OwnSt w.heap.size wr v (l.take j) ∧ Below w.heap.size w wr) (fun _ i _ => l.length - (intOf i).toNat)
  case atStart => exact ⟨0, Nat.zero_le _, rfl, OwnSt.empty hlow (heap_alloc_new w1 _), HB1.out.alloc hlow _⟩
  case round =>
    obtain ⟨j, hj, rfl, hO, hB⟩ := hrel
    have HO := Lib.hid hO; have HB := Lib.hid hB
    clear hO hB
    by_cases hjl : j < l.length
    · obtain ⟨⟨op, nm⟩, hx⟩ : ∃ x, l[j]? = some x := ⟨_, List.getElem?_eq_getElem hjl⟩
      obtain ⟨b, off, rfl, hlt, c0, c1⟩ := (H.out.bel HB.out) j op nm hx
      have HX := Lib.hid hx
      have htl : (l.take j).length = j := by rw [List.length_take]; omega
      have HA1 := Lib.hid (below_alloc1 wr (.cells #[.int .i64 op, .string nm] 26))
      have HA2 := Lib.hid (HA1.out.trans ((below_alloc1 (wr.alloc (.cells #[.int .i64 op, .string nm] 26)) (.cells #[.int .i64 op, .string nm] 27)).mono (by simp)))
      have HOA := Lib.hid (show World.ownsRow ((wr.alloc (.cells #[.int .i64 op, .string nm] 26)).alloc (.cells #[.int .i64 op, .string nm] 27)) w.heap.size 27 2 u3 j (stVs (l.take j)) by have := HO.out.bel HA2.out; unfold OwnSt at this; rw [htl] at this; exact this)
      have HBA := Lib.hid (HB.out.trans (HA2.out.mono HB.out.size))
      have HTL := Lib.hid htl
      have HNEWS := Lib.hid (news2 (wr.alloc (.cells #[.int .i64 op, .string nm] 26)) (.int .i64 op) (.string nm) 27)
      clear hx htl
      go_wp2_with (at_builtin; refine wpList_append_lies _ rfl (.tmp 21) (.tmp 27) 24 rfl w.heap.size 27 it (.agg #[.int .i64 0, .string ByteArray.empty]) 2 24 Try.underlying24 hit hzt hst hbt rfl (by omega) u3 j _ rfl HOA.out ⟨wr.heap.size + 1, 0, none⟩ 1 1 (stV (op, nm)) rfl rfl (by have := HNEWS.out; simpa [stV] using this) (by simp [stV, Value.oneCell']) (by omega) (by unfold maxLen; omega) (by omega) HBA.out.size _ rfl ?_; intro g cp w3 hown3 hgrow3 hat3 hlt3)
      have hB3 := HBA.out.grown hgrow3 HBA.out.size (fun k hk => (HOA.out.lt k hk).1)
      go_wp2
      go_roundw
      case rel =>
        refine ⟨j + 1, by omega, by go_num, ?_, hB3⟩
        unfold OwnSt
        rw [List.take_add_one, HX.out]
        simp only [Option.toList]
        rw [stVs_snoc, List.length_append, HTL.out]
        exact hown3
      case measure => simp [intOf]; omega
    · have hje : j = l.length := by omega
      subst hje
      rw [List.take_length] at HO
      obtain ⟨a2, cap2, rfl, hs2⟩ := HO.out.steps
      have HS2 := Lib.hid hs2; clear hs2
      go_wp2_with fail
      refine (steps_any HS2.out cap2 hlen).mono ?_
      rintro e w2 ⟨ht, hb2⟩
      obtain ⟨r, rfl, hr⟩ := ht
      have HB2 := Lib.hid (HB.out.trans (hb2.mono HB.out.size))
      have HS3 := Lib.hid (HS2.out.bel hb2)
      clear hb2
      cases r
      · clear hr
        go_wp2
        go_ret
        exact ⟨rfl, HB2.out⟩
      have HK := Lib.hid (hr rfl)
      clear hr
      go_wp2_with fail
      refine (implNames_any (H.out.bel HB2.out) cap HK.out).mono ?_
      rintro e w3 ⟨⟨v1, v2, rfl, ht1, hn1⟩, hb3⟩
      have hll := upTo_len l l.length (Nat.le_refl _)
      have HL6 := Lib.hid (show (upTo l l.length).2.length ≤ 1000 by have := HK.out.1; omega)
      have hb1l : (bits (upTo l l.length).1).length = l.length := by rw [bits_len, hll.1]
      obtain ⟨g1, p1, rfl, _, hg1, _⟩ := ht1.form
      obtain ⟨g2, p2, rfl, _, hg2, _⟩ := hn1.form
      have HT1 := Lib.hid ht1.read; have HN1 := Lib.hid hn1.read
      have HB3 := Lib.hid (HB2.out.trans (hb3.mono HB2.out.size))
      have HS4 := Lib.hid (HS3.out.bel hb3)
      clear hb3 ht1 hn1 hll hg1 hg2
      go_wp2_with fail
      refine (specNames_any HS4.out cap2 HK.out).mono ?_
      rintro e w4 ⟨⟨v3, v4, rfl, ht2, hn2⟩, hb4⟩
      obtain ⟨g3, p3, rfl, _, hg3, _⟩ := ht2.form
      obtain ⟨g4, p4, rfl, _, hg4, _⟩ := hn2.form
      have HT2 := Lib.hid ht2.read; have HN2 := Lib.hid hn2.read
      have HT1b := Lib.hid (HT1.out.bel hb4); have HN1b := Lib.hid (HN1.out.bel hb4)
      have HB4 := Lib.hid (HB3.out.trans (hb4.mono HB3.out.size))
      clear hb4 ht2 hn2 hg3 hg4
      rw [hb1l] at ⊢
      have HBL := Lib.hid hb1l
      clear hb1l
      go_wp2_with (go_at_call 8; refine (sameTexts_any HN1b.out HN2.out HL6.out).mono ?_; rintro e w5 ⟨rfl, hb5⟩)
      have HB5 := Lib.hid (HB4.out.trans (hb5.mono HB4.out.size))
      have HT1c := Lib.hid (HT1b.out.bel hb5); have HT2c := Lib.hid (HT2.out.bel hb5)
      clear hb5
      go_loopw [56] (fun i wx => ∃ k : Nat, k ≤ l.length ∧ i = .int .i64 k ∧ Below w5.heap.size w5 wx) (fun i _ => l.length - (intOf i).toNat)
      case atStart => exact ⟨0, Nat.zero_le _, rfl, Below.refl _ _⟩
      case round =>
        obtain ⟨k, hk, rfl, hBx⟩ := hrel
        by_cases hkl : k < l.length
        · obtain ⟨x, hx⟩ : ∃ x, (bits (upTo l l.length).1)[k]? = some x := ⟨_, List.getElem?_eq_getElem (by rw [HBL.out]; exact hkl)⟩
          obtain ⟨hlt1, hc1⟩ := HT1c.out.cells
          obtain ⟨hlt2, hc2⟩ := HT2c.out.cells
          obtain ⟨bb, rfl⟩ : ∃ bb : Bool, x = .bool bb := by
            have := List.mem_of_getElem? hx
            obtain ⟨bb, _, rfl⟩ := List.mem_map.1 this
            exact ⟨bb, rfl⟩
          have c1 := ((bcell hBx).1 g1 k hlt1).trans (hc1 k _ hx)
          have c2 := ((bcell hBx).1 g3 k hlt2).trans (hc2 k _ hx)
          have l1 : g1 < wr.heap.size := by have := hBx.size; omega
          have l2 : g3 < wr.heap.size := by have := hBx.size; omega
          have HBX := Lib.hid hBx
          clear hx hc1 hc2 hBx
          go_wp2_with fail
          refine wp_region_quiet_C (Stay wr) (by kernel_rfl) (by kernel_rfl) (stay_start _) ?_
          repeat (first
            | (refine wpQ_skip (by rfl) ?_; simp only [Act.put, List.setIfInBounds_toArray, List.set_cons_zero, List.set_cons_succ])
            | (refine wpQ_value (v := ?_) (by rfl) ?_ ?_; rotate_left; (intro w hw; go_simp; done); simp only [Act.put, List.setIfInBounds_toArray, List.set_cons_zero, List.set_cons_succ])
            | (refine wpQ_value (v := ?_) (by rfl) ?_ ?_; rotate_left; (intro w hw; go_simp; with_reducible rfl); simp only [Act.put, List.setIfInBounds_toArray, List.set_cons_zero, List.set_cons_succ])
            | (refine wpQ_call (f := ?_) (args := ?_) (v := ?_) (by rfl) ?_ ?_ ?_; rotate_left 3; (intro w hw; go_simp; first | with_reducible rfl | (constructor; with_reducible rfl; with_reducible rfl)); (intro w hw; first | fail); simp only [Act.put, List.setIfInBounds_toArray, List.set_cons_zero, List.set_cons_succ]))
          refine wpQuiet_nil ?_
          intro w6 hS6
          go_wp2
          go_roundw
          case rel => exact ⟨k + 1, by omega, by go_num, HBX.out.trans (hS6.1.mono HBX.out.size)⟩
          case measure => simp [intOf]; omega
        · go_wp2
          go_ret
          exact ⟨rfl, HB5.out.trans (hBx.mono HB5.out.size)⟩
section
variable {H : Type} {enc : TypeId × Value → H} {P : Program} {w : World} {base : Nat} {spare : Nat → Bool} {held : Bool}
theorem open_slice_fields {t e : TypeId} {fs : Array Field} {fuel : Nat} {cs : List Value} {x : DataW H × List MemPlace} (ht : P.underlying t = some (.slice e)) (he : P.underlying e = some (.struct fs))
    (hone : oneCellFields P fs = true) (hC : P.cellsOf e = fs.size) (h : DataW.trod enc P w base spare held fuel t cs = some x) :
    (cs = [.slice none 0 0] ∧ x = (.nil, [])) ∨
    ∃ (a : Addr) (len cap m : Nat) (D : Nat → DataW H) (Pl : Nat → List MemPlace), cs = [.slice (some a) len cap] ∧ base ≤ a.block ∧ len ≤ cap ∧ cap ≤ maxLen ∧ m = (if spare a.block then cap else len) ∧
      x = (.slice ((List.range len).map D) ((List.range (m - len)).map fun j => D (len + j)), MemPlace.row a (m * fs.size) ++ (List.range m).flatMap Pl) ∧
      ∀ i, i < m → ∃ (ys : List (DataW H × List MemPlace)) (n : Nat), D i = .agg (ys.map (·.1)) ∧ Pl i = ys.flatMap (·.2) ∧ ys.length = fs.size ∧
        ∀ (j : Nat) (f : Field), fs[j]? = some f → ∃ (v : Value) (y : DataW H × List MemPlace), w.cell? (a.add (i * fs.size + j)) = some v ∧ ys[j]? = some y ∧ DataW.trod enc P w base spare held n f.type [v] = some y := by
  rcases open_slice ht h with h0 | ⟨a, len, cap, m, n, D, Pl, hcs, hb, hl, hm, hmm, hx, hi⟩
  · exact .inl h0
  · refine .inr ⟨a, len, cap, m, D, Pl, hcs, hb, hl, hm, hmm, by rw [hC] at hx; exact hx, fun i him => ?_⟩
    obtain ⟨cs', hc, ht'⟩ := hi i him
    rw [hC] at hc
    obtain ⟨ys, n', hn', hy, hlen, hyl, hf⟩ := DataW.trod_struct he ht'
    obtain ⟨_, hcl, hat⟩ := World.cells?_some hc
    simp only [Prod.mk.injEq] at hy
    refine ⟨ys, n', hy.1, hy.2, hyl, fun j f hj => ?_⟩
    obtain ⟨ho, hk⟩ := hone_of hone j f hj
    have hjl : j < fs.size := (Array.getElem?_eq_some_iff.1 hj).1
    have hcell := hat j hjl
    have hv : cs'[j]? = some (cs'[j]'(by omega)) := List.getElem?_eq_getElem (by omega)
    have h1 := hf j f hj
    rw [ho, hk] at h1
    have hone' : (cs'.drop j).take 1 = [cs'[j]'(by omega)] := by
      rw [List.drop_eq_getElem_cons (by omega)]
      rfl
    rw [hone'] at h1
    have hys : ys[j]? = some (ys[j]'(by omega)) := List.getElem?_eq_getElem (by omega)
    refine ⟨_, _, ?_, hys, h1.trans hys⟩
    rw [← Go.Deep.add_add, hcell, hv]
end

theorem collect {α : Type} {R : Nat → α → Prop} : ∀ {n : Nat}, (∀ i, i < n → ∃ x, R i x) → ∃ l : List α, l.length = n ∧ ∀ i x, l[i]? = some x → R i x
  | 0, _ => ⟨[], rfl, fun i x h => by simp at h⟩
  | n + 1, h => by
    obtain ⟨l, hl, hr⟩ := collect (n := n) fun i hi => h i (by omega)
    obtain ⟨x, hx⟩ := h n (by omega)
    refine ⟨l ++ [x], by simp [hl], fun i y hy => ?_⟩
    by_cases e : i = n
    · subst e
      have : y = x := by
        rw [List.getElem?_append_right (by omega)] at hy
        simpa [hl, eq_comm] using hy
      exact this ▸ hx
    · have hlt : i < n + 1 := by
        have := (List.getElem?_eq_some_iff.1 hy).1
        simpa [hl] using this
      rw [List.getElem?_append_left (by omega)] at hy
      exact hr i y hy
set_option maxRecDepth 100000 in
theorem fieldsStep : ∃ fs : Array Field, Try.prog.underlying 26 = some (.struct fs) ∧ oneCellFields Try.prog fs = true ∧ Try.prog.cellsOf 26 = fs.size ∧ fs.size = 2 ∧ (fs.map Field.type) = #[3, 9] :=
  ⟨_, Try.underlying26, by kernel_rfl, by kernel_rfl, rfl, by simp⟩
set_option maxRecDepth 100000 in
/-- An argument that is a list of steps. -/
theorem open_steps {H : Type} {enc : TypeId × Value → H} {W : World} {base b0 : Nat} {sp : Nat → Bool} {held : Bool} {v : Value} {d : DataW H} {ps : List MemPlace} (hv : Value.okWide Try.prog W .any b0 22 v) (h : DataW.Trod enc Try.prog W base sp held 22 v d ps) :
    ∃ (l : List St) (a : Option Addr) (cap : Nat), v = .slice a l.length cap ∧ StepsAt W l a := by
  obtain ⟨a0, n0, c0, rfl⟩ := okWide_slice Try.underlying22 hv
  obtain ⟨fuel, h⟩ := h
  obtain ⟨fs, hu, hone, hC, hn, hty⟩ := fieldsStep
  rcases open_slice_fields Try.underlying22 hu hone hC h with ⟨e, _⟩ | ⟨a, len, cap, m, D, Pl, e, hb, hlc, hcm, hm, _, hi⟩
  · exact ⟨[], none, 0, by simpa [Value.cells] using e, fun i op nm h => by simp at h⟩
  · have ev : Value.slice a0 n0 c0 = .slice (some a) len cap := by simpa [Value.cells] using e
    rw [ev]
    have hlen : len ≤ m := by rw [hm]; split <;> omega
    rw [hn] at hi
    have ty : ∀ (j : Nat) (t : TypeId), #[3, 9][j]? = some t → ∃ f : Field, fs[j]? = some f ∧ f.type = t := by
      intro j t hj
      rw [← hty, Array.getElem?_map] at hj
      obtain ⟨f, hf, e⟩ := Option.map_eq_some_iff.1 hj
      exact ⟨f, hf, e⟩
    have one : ∀ i, i < len → ∃ x : St, W.cell? (a.add (i * 2 + 0)) = some (.int .i64 x.1) ∧ W.cell? (a.add (i * 2 + 1)) = some (.string x.2) := by
      intro i hil
      obtain ⟨ys, n, _, _, _, hf⟩ := hi i (by omega)
      obtain ⟨f0, g0, t0⟩ := ty 0 3 rfl
      obtain ⟨f1, g1, t1⟩ := ty 1 9 rfl
      obtain ⟨v0, y0, c0, _, k0⟩ := hf 0 f0 g0
      obtain ⟨v1, y1, c1, _, k1⟩ := hf 1 f1 g1
      rw [t0] at k0
      rw [t1] at k1
      obtain ⟨a0, e0, _, _⟩ := DataW.trod_int Try.underlying3 k0
      obtain ⟨a1, e1, _, _⟩ := DataW.trod_string Try.underlying9 k1
      simp at e0 e1
      subst e0 e1
      exact ⟨(a0, a1), c0, c1⟩
    obtain ⟨l, hl, hr⟩ := collect one
    refine ⟨l, some a, cap, by rw [hl], fun i op nm h => ?_⟩
    obtain ⟨h1, h2⟩ := hr i _ h
    obtain ⟨b, off, spot⟩ := a
    have h0' : 0 < l.length := by have := (List.getElem?_eq_some_iff.1 h).1; omega
    have first := (hr 0 l[0] (List.getElem?_eq_getElem h0')).1
    have hspot : spot = none := by simpa [Addr.add] using World.cell?_spot first
    subst hspot
    have hadd : ∀ j, (⟨b, off, none⟩ : Addr).add j = ⟨b, off + j, none⟩ := fun j => by unfold Addr.add; split <;> simp_all
    rw [hadd] at h1 h2
    exact ⟨b, off, rfl, World.block_lt_of_cell? W _ h1, h1, h2⟩
set_option maxRecDepth 100000 in
theorem fnNames_lifted (os : Os) (started : os.Started) (H : Type) (enc : TypeId × Value → H) :
    ReturnsInHanded {} Try.checked os 3 .any (Rows.fnNamesSpec.pre6 enc Try.prog Try.f3 Rows.fnNamesRow.domain false) (Rows.fnNamesSpec.post enc Try.prog Try.f3 false true false false) :=
  law_lift (C := Try.checked) (tb := 4) 1 own started (by kernel_rfl) Try.func3
    (ChangeSpec.witness6 (enc := enc) (C := Try.checked) false ⟨#[], #[.slice none 0 0], []⟩ 8 (by kernel_rfl) (by kernel_rfl) (by kernel_rfl) (by kernel_rfl))
    laidOut rfl rfl Try.underlying4 (params_ok (by kernel_rfl)) rfl (fun ds h => by match ds, h with | [_], _ => rfl)
    (fun W base args ds ps hval0 hA0 hlt hsz0 => by
      have hA : DataW.TrodAll enc Try.prog W 0 (fun _ => true) true Try.f3.params.toList args.toList ds ps := hA0
      have hval : ∀ (j : Nat) t v, Try.f3.params[j]? = some t → args[j]? = some v → Value.okWide Try.prog W .any base t v := hval0
      have hsz : (DataW.weightsEach Try.prog Try.f3.params.toList ds).all (· ≤ reachBytes) = true := hsz0
      clear hA0 hval0 hsz0
      rw [Try.params3] at hA hval hsz
      obtain ⟨v0, d0, rfl, rfl, h0⟩ := trodAll_one hA
      obtain ⟨l, a, cap, rfl, hs⟩ := open_steps (hval 0 22 v0 rfl rfl) h0
      exact names_walk hs cap)

theorem fnNames : Rows.FnNamesSaid :=
  OpenClaim.holds_of_wide 3 Try.f3 rfl rfl rfl rfl rfl rfl rfl ⟨rfl, rfl, rfl, rfl, rfl⟩ rfl rfl rfl rfl rfl (by kernel_rfl) Try.func3 (by kernel_rfl)
    (of_decide_eq_true (by kernel_rfl)) (by unfold Func.isWrapper; first | (rw [if_pos (by decide +kernel)]; kernel_rfl) | (rw [if_neg (by decide +kernel)]; exact ⟨rfl, rfl⟩))
    (fun os started H enc _ => fnNames_lifted os started H enc)
#print axioms fnNames
end Go.Proofs.Ytceepfnjdkfjnaa
