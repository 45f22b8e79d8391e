/-
  ast.FodderAppend: a comment of whole lines behind none. Conditions: the lists' lengths.
-/
import Derived.Test.YthlnciihabhmaaaFmtFodder3
import Derived.Test.YthlnciihabhmaaaFmtWith
namespace Go.Proofs.YthlnciihabhmaaaFmt
open Go.ChangeShapes Go.WideShapes Go.ChangeAt Go.RowKit Go.Joins

/-- What an append leaves, but for the ending. -/
theorem appended_then {base A : Nat} {w wc w' : World} {v v1 : Value} {rs : List Pc} {e : Ending} (h1 : Only (fun k => k = A ∨ v.ownBlock = some k) w wc) (h2 : ∀ b, v1.ownBlock = some b → v.ownBlock = some b ∨ w.heap.size ≤ b) (h : Appended base A wc v1 rs e w') : Appended base A w v rs e w' := by
  obtain ⟨rfl, v', a1, a2, a3, a4⟩ := h
  refine ⟨rfl, v', a1, a2, h1.then a3 fun i hi hs => ?_, fun b hb => ?_⟩
  · rcases hs with hs | hs
    · exact .inl hs
    · rcases h2 i hs with h | h
      · exact .inr h
      · omega
  · rcases a4 b hb with h | h
    · exact h2 b h
    · exact .inr (Nat.le_trans h1.size h)
set_option maxHeartbeats 4000000 in
set_option maxRecDepth 100000 in
theorem fappend_ahead {rs : List Pc} {w : World} {A base : Nat} {v u : Value} {ps : List Pc} {bl ind : Int} {ss : List ByteArray} (hA : Var w A 62 v) (hO : OwnX eV (fun k => k = A) base 56 w v ps) (hbase : base ≤ w.heap.size)
    (hu : Comm w u ss) (hfu : Far (fun k => k = A ∨ v.ownBlock = some k) u ss) (hm : (ps.length : Int) ≤ 2147483645) (hr : cleanB ps = false) (hrs : rs = ps ++ [⟨0, 0, ind, []⟩] ++ [⟨2, bl, ind, ss⟩]) :
    Calls Tryf.prog 42 #[.pointer (some ⟨A, 0, none⟩), .agg #[u, .int .i64 2, .int .i64 bl, .int .i64 ind]] w (Appended base A w v rs) := by
  have HRS := Lib.hid hrs; clear hrs
  obtain ⟨a, cap, rfl⟩ := hO.pcs.form
  obtain ⟨ua, ucap, rfl⟩ := hu.form
  have hB1 := below_alloc1 w (.cells #[.slice ua ss.length ucap, .int .i64 2, .int .i64 bl, .int .i64 ind] 56)
  have hB2 := below_alloc2 w (.cells #[.slice ua ss.length ucap, .int .i64 2, .int .i64 bl, .int .i64 ind] 56) (.cells #[] 9)
  have x0 := hA.lt
  have x1 := hA.cell
  have x2 := hA.free
  have HP1 := Lib.hid (hO.pcs.below hB1)
  have HR := Lib.hid hr
  have hm' : (ps.length : Int) ≤ 2147483647 := by omega
  obtain ⟨xs, hown, hcs⟩ := hO
  have HO := Lib.hid hown
  have HC := Lib.hid hcs
  have HV := Lib.hid hA
  have HNE := Lib.hid (hA.ne_ hown (by decide))
  have HNB := Lib.hid (show (Value.slice a ps.length cap).ownBlock ≠ some w.heap.size from fun e => by have := (hown.lt _ e).2; omega)
  obtain ⟨i0, hi0, hz0, hs0, hb0⟩ := info_parts infoE
  have HU := Lib.hid hu
  have HF := Lib.hid hfu
  have HXB := Lib.hid (show ((w.alloc (.cells #[.slice ua ss.length ucap, .int .i64 2, .int .i64 bl, .int .i64 ind] 56)).alloc (.cells #[] 9)).heap[w.heap.size]? = some (.cells #[.slice ua ss.length ucap, .int .i64 2, .int .i64 bl, .int .i64 ind] 56) from (Below.heap_alloc _ _ _ (by simp)).trans (heap_alloc_new w _))
  have HKS := Lib.hid (show KindP 0 0 ind 0 from .inl ⟨rfl, by omega⟩)
  clear hA hown hcs hu hr hfu
  go_enter Tryf.func42, Tryf.ntmps42
  go_wp2_with (go_at_call 48; refine (cleanE_is HP1.out hm' HR.out).mono ?_; rintro e w' ⟨rfl, rfl⟩)
  go_cut [] (fun wc => ∃ v1, Var wc A 62 v1 ∧ OwnX eV (fun k => k = A) base 56 wc v1 (ps ++ [⟨0, 0, ind, []⟩]) ∧ Only (fun k => k = A ∨ (Value.slice a ps.length cap).ownBlock = some k) w wc ∧ (∀ b, v1.ownBlock = some b → (Value.slice a ps.length cap).ownBlock = some b ∨ w.heap.size ≤ b) ∧ wc.heap[w.heap.size]? = some (.cells #[.slice ua ss.length ucap, .int .i64 2, .int .i64 bl, .int .i64 ind] 56))
  case first =>
    go_region_law ((first | (refine step_call (by rfl) (make_any 0 0 ind (some ⟨w.heap.size + 1, 0, none⟩) 0 0 _ HKS.out (by omega)) (by go_simp) ?_; rintro e w4 ⟨rfl, hb4⟩; refine ⟨_, rfl, ?_⟩; have hB4 : Below w.heap.size w w4 := (hB2.drew.trans (hb4.mono hB2.size)); have HX4 := Lib.hid ((hb4.block w.heap.size (by simp; omega)).trans HXB.out); have HV4 := Lib.hid (HV.out.below hB4); have y1 := HV4.out.cell; have y2 := HV4.out.free; have y0 := HV4.out.lt; have hB5 := hB4.trans ((below_alloc1 w4 (.cells #[.slice (some ⟨w.heap.size + 1, 0, none⟩) 0 0, .int .i64 0, .int .i64 0, .int .i64 ind] 56)).mono hB4.size); have HO5 := Lib.hid (ownsRow_below HO.out hB5); have HV5 := Lib.hid (HV.out.below hB5)) | (refine step_append_lies _ (by rfl) (.tmp 68) (.tmp 73) 62 (by rfl) base 56 i0 (.agg #[.slice none 0 0, .int .i64 0, .int .i64 0, .int .i64 0]) 4 48 Tryf.underlying62 hi0 hz0 hs0 hb0 rfl (by omega) (.slice a ps.length cap) ps.length xs (by simp [Act.eval]) HO5.out ⟨w4.heap.size, 0, none⟩ 1 1 (eV ⟨0, 0, ind, []⟩ (.slice (some ⟨w.heap.size + 1, 0, none⟩) 0 0)) (by simp [Act.eval]) rfl (news4 rfl) (eV_one'' (Comm.nil w _ _)) (by omega) (by unfold maxLen; omega) (by omega) (Nat.le_trans hbase hB5.size) _ rfl ?_; intro g cap1 w3 hown1 hgrow1 hat1 hlt1; have HV6 := Lib.hid (var_grown HV5.out HNE.out hgrow1); have y3 := HV6.out.cell; have y4 := HV6.out.free)))
    all_goals
      have HH := Lib.hid hown1; have HG := Lib.hid hgrow1; have HT := Lib.hid hat1
      clear hown1 hgrow1 hat1
      go_wp2_with fail
      go_meet
      obtain ⟨_, v1, k1, k2, k3, k4⟩ := appended_of (p := ⟨0, 0, ind, []⟩) hB5 HV6.out HNE.out x0 HC.out (Comm.nil w _ _) (Far.nil _ _) HH.out rfl HG.out HT.out
      refine ⟨v1, k1, k2, k3, k4, ?_⟩
      exact (Below.heap_setCell _ ⟨A, 0, none⟩ _ _ (Nat.ne_of_gt x0)).trans ((HG.out.block w.heap.size (by have := hB4.size; have := hb4.size; simp at *; omega) (fun e => HNB.out e.symm)).trans ((Below.heap_alloc w4 _ _ (by have := hb4.size; simp at this; omega)).trans HX4.out))
  case rest =>
    obtain ⟨v1, hv1, ho1, hn1, hr1, hbx⟩ := hcut
    obtain ⟨a1, cap1, ev⟩ := ho1.pcs.form
    rw [List.length_append, List.length_singleton] at ev
    subst ev
    have hz1 := hn1.size
    have hu1 := HU.out.only hn1 (fun b hb h0 hs => HF.out h0 b hb hs)
    have hf1 : Far (fun k => k = A ∨ (Value.slice a1 (ps.length + 1) cap1).ownBlock = some k) (.slice ua ss.length ucap) ss := HU.out.far_add HF.out fun b hb => by
      rcases hb with hb | hb
      · exact .inl (.inl hb)
      · exact (hr1 b hb).imp .inr id
    obtain ⟨b0, b1, b2, b3, bf⟩ := box4 hbx
    obtain ⟨xs1, hown1, hcs1⟩ := ho1
    rw [List.length_append, List.length_singleton] at hown1
    have hB3 := (below_alloc1 wc (.cells #[.slice ua ss.length ucap, .int .i64 2, .int .i64 bl, .int .i64 ind] 56)).drew
    have HO3 := Lib.hid (ownsRow_below hown1 hB3)
    have HC1 := Lib.hid hcs1
    have HV3 := Lib.hid (hv1.below hB3)
    have HNE1 := Lib.hid (hv1.ne_ hown1 (by decide))
    have z0 := hv1.lt
    have z1 := hv1.cell
    have z2 := hv1.free
    have HN1 := Lib.hid hn1
    have HR1 := Lib.hid hr1
    have HU1 := Lib.hid hu1
    have HF1 := Lib.hid hf1
    have HBZ := Lib.hid (show base ≤ ((wc.alloc (.cells #[.slice ua ss.length ucap, .int .i64 2, .int .i64 bl, .int .i64 ind] 56)).drew).heap.size from Nat.le_trans hbase (Nat.le_trans hz1 hB3.size))
    clear hv1 hown1 hcs1 hn1 hr1 hu1 hf1 hbx x1 x2
    go_wp2
    go_region_law ((refine step_append_lies _ (by rfl) (.tmp 79) (.tmp 81) 62 (by rfl) base 56 i0 (.agg #[.slice none 0 0, .int .i64 0, .int .i64 0, .int .i64 0]) 4 48 Tryf.underlying62 hi0 hz0 hs0 hb0 rfl (by omega) (.slice a1 (ps.length + 1) cap1) (ps.length + 1) xs1 (by simp [Act.eval]) HO3.out ⟨wc.heap.size, 0, none⟩ 1 1 (eV ⟨2, bl, ind, ss⟩ (.slice ua ss.length ucap)) (by simp [Act.eval]) rfl (news4 rfl) (eV_one'' HU1.out) (by omega) (by unfold maxLen; omega) (by omega) HBZ.out _ rfl ?_; intro g cap2 w3 hown2 hgrow2 hat2 hlt2; have HV4 := Lib.hid (var_grown HV3.out HNE1.out hgrow2); have y1 := HV4.out.cell; have y2 := HV4.out.free))
    all_goals
      go_end0
      rw [HRS.out]
      exact appended_then HN1.out HR1.out (appended_of (p := ⟨2, bl, ind, ss⟩) hB3 HV4.out HNE1.out z0 HC1.out HU1.out HF1.out hown2 (by simp) hgrow2 hat2)
end Go.Proofs.YthlnciihabhmaaaFmt
