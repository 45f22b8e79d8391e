/-
  impl.AppendPiece, impl.JoinPieces, impl.CleanEnd: what they return. Conditions: the lists' lengths, the numbers of blank lines.
-/
import Derived.Test.YthlnciihabhmaaaFmtConcat
namespace Go.Proofs.YthlnciihabhmaaaFmt
open Go.ChangeShapes Go.WideShapes Go.ChangeAt Go.RowKit Go.Joins

theorem appendP_len' (ps : List Pc) (p : Pc) : ((appendP ps p).length : Int) ≤ ps.length + 2 := by have := appendP_len ps p; omega
theorem implAppend {w : World} {v u : Value} {ps : List Pc} {p : Pc} (h : Pcs pV w v ps) (hu : Comm w u p.ss) (hm : (ps.length : Int) ≤ 1000) (hk : p.k = 0 ∨ p.k = 1 ∨ p.k = 2) (hb : 0 ≤ p.bl ∧ p.bl ≤ 1000000) (hbs : ∀ q ∈ ps, 0 ≤ q.bl ∧ q.bl ≤ 1000000) (hn : p.ss.length ≤ 1000000) (hns : ∀ q ∈ ps, q.ss.length ≤ 1000000) :
    Calls Tryf.prog 25 #[v, .agg #[.int .i64 p.k, .int .i64 p.bl, .int .i64 p.ind, u]] w fun e w' => (∃ v', e = .returned v' ∧ Pcs pV w' v' (appendP ps p)) ∧ Below w.heap.size w w' := by
  obtain ⟨a, cap, rfl⟩ := h.form
  obtain ⟨ua, ucap, rfl⟩ := hu.form
  have hB1 := below_alloc1 w (.cells #[.int .i64 p.k, .int .i64 p.bl, .int .i64 p.ind, .slice ua p.ss.length ucap] 24)
  have HP := Lib.hid (h.below hB1)
  have HU := Lib.hid (hu.below hB1)
  have HX := Lib.hid (heap_alloc_new w (.cells #[.int .i64 p.k, .int .i64 p.bl, .int .i64 p.ind, .slice ua p.ss.length ucap] 24))
  have HS := Lib.hid hbs
  have HN := Lib.hid hns
  have HK := Lib.hid hk
  have HL := Lib.hid (appendP_len' ps p)
  clear h hu hbs hns hk
  go_enter Tryf.func25, Tryf.ntmps25
  go_wp2_with fail
  go_at_call 41
  refine (fodder_pcs HP.out (by omega) HN.out).mono ?_
  rintro e w2 ⟨⟨v1, rfl, ho⟩, hb2⟩
  obtain ⟨a1, cap1, rfl⟩ := ho.pcs.form
  obtain ⟨x0, x1, x2, x3, xf⟩ := box4 ((hb2.block w.heap.size (by simp)).trans HX.out)
  have hlt1 : w.heap.size < w2.heap.size := by have := hb2.size; simp at this; omega
  have hb3 := below_alloc1 w2 (.cells #[.slice a1 ps.length cap1] 62)
  have HU3 := Lib.hid ((HU.out.below hb2).below hb3)
  have HO := Lib.hid ho; clear ho
  have HB2 := Lib.hid hb2; clear hb2
  have HB3 := Lib.hid hb3; clear hb3
  go_wp2_with fail
  go_at_call 37
  refine (element_far p.k p.bl p.ind HU3.out hn).mono ?_
  rintro e w4 ⟨⟨u4, rfl, hu4, hf4⟩, hb4⟩
  obtain ⟨ua4, ucap4, rfl⟩ := hu4.form
  have hV4 : Var w4 w2.heap.size 62 (.slice a1 ps.length cap1) := Var.below (heap_alloc_new w2 _) hb4
  have hO4 := ((HO.out.far (Y := fun k => k = w2.heap.size) fun k hk => .inr (by omega)).below HB3.out).below hb4
  have hF4 : Far (fun k => k = w2.heap.size ∨ (Value.slice a1 ps.length cap1).ownBlock = some k) (.slice ua4 p.ss.length ucap4) p.ss := fun h0 b hb hk => by
    obtain ⟨b', e, hle⟩ := hf4 h0
    rw [e] at hb
    injection hb with hb
    subst hb
    simp at hle
    rcases hk with hk | hk
    · omega
    · have := (HO.out.lt hk).2
      omega
  have hB4 : Below w.heap.size w w4 := hB1.trans ((HB2.out.trans ((HB3.out.trans (hb4.mono HB3.out.size)).mono HB2.out.size)).mono hB1.size)
  have hbase : (w.alloc (.cells #[.int .i64 p.k, .int .i64 p.bl, .int .i64 p.ind, .slice ua p.ss.length ucap] 24)).heap.size ≤ w4.heap.size := Nat.le_trans HB2.out.size (Nat.le_trans HB3.out.size hb4.size)
  have HV4 := Lib.hid hV4; clear hV4
  have HO4 := Lib.hid hO4; clear hO4
  have HF4 := Lib.hid hF4; clear hF4 hf4
  have HU4 := Lib.hid hu4; clear hu4
  clear x0 x1 x2 x3 xf
  go_wp2_with fail
  go_at_call 42
  refine (fodderAppend (p := p) HV4.out HO4.out hbase HU4.out HF4.out (by omega) HK.out hb HS.out hn).mono ?_
  rintro e w5 ⟨rfl, v5, hv5, ho5, hn5, _⟩
  obtain ⟨a5, cap5, rfl⟩ := ho5.pcs.form
  have y0 := hv5.lt
  have y1 := hv5.cell
  have hB5 : Below w.heap.size w w5 := hB4.trans (hn5.below hB4.size (fun k hk => by
    rcases hk with hk | hk
    · omega
    · have := (HO.out.lt hk).1
      simp at this
      omega))
  have HO5 := Lib.hid ho5; clear ho5 hv5 hn5
  go_wp2_with fail
  go_at_call 43
  refine (implPieces_pcs HO5.out.pcs (by have := HL.out; omega)).mono ?_
  rintro e w6 ⟨⟨v6, rfl, ho6⟩, hb6⟩
  have HO6 := Lib.hid ho6; clear ho6
  have hB6 := hB5.trans (hb6.mono hB5.size)
  go_wp2
  go_ret
  exact ⟨⟨_, rfl, HO6.out.pcs⟩, hB6⟩

theorem joinP_len' (ps qs : List Pc) : ((joinP ps qs).length : Int) ≤ ps.length + 2 + qs.length := by
  cases ps with
  | nil => simp [joinP]; omega
  | cons a ps =>
    have := joinTo_all (ps := a :: ps) (qs := qs) (by simp)
    rw [← this]
    have := joinTo_len (a :: ps) qs qs.length
    omega
/-- fodder twice, joined. -/
theorem implJoin {w : World} {v v' : Value} {ps qs : List Pc} (h : Pcs pV w v ps) (h' : Pcs pV w v' qs) (hm : (ps.length : Int) ≤ 1000) (hm' : (qs.length : Int) ≤ 1000) (hk : ∀ p ∈ qs, p.k = 0 ∨ p.k = 1 ∨ p.k = 2) (hb : ∀ q ∈ ps, 0 ≤ q.bl ∧ q.bl ≤ 1000000) (hb' : ∀ q ∈ qs, 0 ≤ q.bl ∧ q.bl ≤ 1000000) (hn : ∀ q ∈ ps, q.ss.length ≤ 1000000) (hn' : ∀ q ∈ qs, q.ss.length ≤ 1000000) :
    Calls Tryf.prog 33 #[v, v'] w fun e w' => (∃ v'', e = .returned v'' ∧ Pcs pV w' v'' (joinP ps qs)) ∧ Below w.heap.size w w' := by
  obtain ⟨a, cap, rfl⟩ := h.form
  obtain ⟨a', cap', rfl⟩ := h'.form
  have HP := Lib.hid h
  have HP' := Lib.hid h'
  have HK := Lib.hid hk
  have HB := Lib.hid hb
  have HB' := Lib.hid hb'
  have HN := Lib.hid hn
  have HN' := Lib.hid hn'
  have HL := Lib.hid (joinP_len' ps qs)
  clear h h' hk hb hb' hn hn'
  go_enter Tryf.func33, Tryf.ntmps33
  go_wp2_with fail
  go_at_call 41
  refine (fodder_pcs HP.out (by omega) HN.out).mono ?_
  rintro e w2 ⟨⟨v1, rfl, ho⟩, hb2⟩
  obtain ⟨a1, cap1, rfl⟩ := ho.pcs.form
  have HO := Lib.hid ho; clear ho
  go_wp2_with fail
  go_at_call 41
  refine (fodder_pcs (HP'.out.below hb2) (by omega) HN'.out).mono ?_
  rintro e w3 ⟨⟨v2, rfl, ho⟩, hb3⟩
  obtain ⟨a2, cap2, rfl⟩ := ho.pcs.form
  have HO2 := Lib.hid ho; clear ho
  have hB3 := hb2.trans (hb3.mono hb2.size)
  go_wp2_with fail
  go_at_call 45
  refine (fodderConcat ((HO.out.below hb3).far (fun _ h => h.elim)) (HO2.out.far fun b hb => .inl (HO.out.lt hb).2) hb2.size hB3.size (fun k hk e => by
    have h1 := (HO.out.lt hk).2
    have h2 := (HO2.out.lt e).1
    omega) hm hm' HK.out HB.out HB'.out HN'.out).mono ?_
  rintro e w4 ⟨v4, rfl, ho4, hn4⟩
  obtain ⟨a4, cap4, rfl⟩ := ho4.pcs.form
  have hB4 := hB3.trans (hn4.below hB3.size (fun k hk => (HO.out.lt hk).1))
  have HO4 := Lib.hid ho4; clear ho4 hn4
  go_wp2_with fail
  go_at_call 43
  refine (implPieces_pcs HO4.out.pcs (by have := HL.out; omega)).mono ?_
  rintro e w6 ⟨⟨v6, rfl, ho6⟩, hb6⟩
  have HO6 := Lib.hid ho6; clear ho6
  have hB6 := hB4.trans (hb6.mono hB4.size)
  go_wp2
  go_ret
  exact ⟨⟨_, rfl, HO6.out.pcs⟩, hB6⟩

/-- A list that ends with a line; one is put behind if it does not. -/
def endP (ps : List Pc) : List Pc := if cleanB ps = true then ps else ps ++ [⟨0, 0, 0, []⟩]
theorem endP_len (ps : List Pc) : ((endP ps).length : Int) ≤ ps.length + 1 := by
  unfold endP
  split
  · omega
  · simp
theorem ensureClean {w : World} {A base : Nat} {v : Value} {ps : List Pc} (hA : Var w A 62 v) (hO : OwnX eV (fun k => k = A) base 56 w v ps) (hbase : base ≤ w.heap.size) (hm : (ps.length : Int) ≤ 1000) (hbs : ∀ q ∈ ps, 0 ≤ q.bl ∧ q.bl ≤ 1000000) :
    Calls Tryf.prog 44 #[.pointer (some ⟨A, 0, none⟩)] w (Appended base A w v (endP ps)) := by
  obtain ⟨a, cap, rfl⟩ := hO.pcs.form
  have x0 := hA.lt
  have x1 := hA.cell
  have HP := Lib.hid hO.pcs
  have HA := Lib.hid hA
  have HO := Lib.hid hO
  have HS := Lib.hid hbs
  clear hA hO hbs
  cases hr : cleanB ps
  · have HR := Lib.hid hr; clear hr
    have HE := Lib.hid (show endP ps = appendP ps ⟨0, 0, 0, []⟩ by simp [endP, appendP, HR.out])
    go_enter Tryf.func44, Tryf.ntmps44
    go_wp2_with (go_at_call 48; refine (cleanE_is HP.out (by omega) HR.out).mono ?_; rintro e w' ⟨rfl, rfl⟩)
    go_at_call 39
    refine (make_any 0 0 0 _ 0 0 _ (.inl ⟨rfl, by omega⟩) (by omega)).mono ?_
    rintro e w2 ⟨rfl, hb2⟩
    have hb1 := below_alloc1 w (.cells #[] 9)
    have hB2 : Below w.heap.size w w2 := hb1.trans (hb2.mono hb1.size)
    go_wp2_with fail
    go_at_call 42
    refine (fodderAppend (p := ⟨0, 0, 0, []⟩) (HA.out.below hB2) (HO.out.below hB2) (Nat.le_trans hbase hB2.size) (Comm.nil _ _ _) (Far.nil _ _) (by omega) (.inl rfl) ⟨by simp, by simp⟩ HS.out (by simp)).mono ?_
    rintro e w5 hap
    have HAP := Lib.hid (appended_then (Only.of_below hB2) (fun b hb => .inl hb) hap)
    obtain ⟨rfl, _⟩ := hap
    go_wp2
    go_end0
    rw [HE.out]
    exact HAP.out
  · have HR := Lib.hid hr; clear hr
    have HE := Lib.hid (show endP ps = ps by simp [endP, HR.out])
    go_enter Tryf.func44, Tryf.ntmps44
    go_wp2_with (go_at_call 48; refine (cleanE_is HP.out (by omega) HR.out).mono ?_; rintro e w' ⟨rfl, rfl⟩)
    go_end0
    rw [HE.out]
    exact ⟨rfl, _, HA.out, HO.out, .refl _ _, fun b hb => .inl hb⟩

theorem implClean {w : World} {v : Value} {ps : List Pc} (h : Pcs pV w v ps) (hm : (ps.length : Int) ≤ 1000) (hb : ∀ q ∈ ps, 0 ≤ q.bl ∧ q.bl ≤ 1000000) (hn : ∀ q ∈ ps, q.ss.length ≤ 1000000) :
    Calls Tryf.prog 31 #[v] w fun e w' => (∃ v', e = .returned v' ∧ Pcs pV w' v' (endP ps)) ∧ Below w.heap.size w w' := by
  obtain ⟨a, cap, rfl⟩ := h.form
  have HP := Lib.hid h
  have HB := Lib.hid hb
  have HN := Lib.hid hn
  have HL := Lib.hid (endP_len ps)
  clear h hb hn
  go_enter Tryf.func31, Tryf.ntmps31
  go_wp2_with fail
  go_at_call 41
  refine (fodder_pcs HP.out (by omega) HN.out).mono ?_
  rintro e w2 ⟨⟨v1, rfl, ho⟩, hb2⟩
  obtain ⟨a1, cap1, rfl⟩ := ho.pcs.form
  have HO := Lib.hid ho; clear ho
  have hb3 := below_alloc1 w2 (.cells #[.slice a1 ps.length cap1] 62)
  have hB3 := hb2.trans (hb3.mono hb2.size)
  have hV3 : Var (w2.alloc (.cells #[.slice a1 ps.length cap1] 62)) w2.heap.size 62 (.slice a1 ps.length cap1) := heap_alloc_new w2 _
  have HV3 := Lib.hid hV3; clear hV3
  go_wp2_with fail
  go_at_call 44
  refine (ensureClean HV3.out ((HO.out.far (Y := fun k => k = w2.heap.size) fun k hk => .inr (by omega)).below hb3) hB3.size hm HB.out).mono ?_
  rintro e w5 ⟨rfl, v5, hv5, ho5, hn5, _⟩
  obtain ⟨a5, cap5, rfl⟩ := ho5.pcs.form
  have y0 := hv5.lt
  have y1 := hv5.cell
  have hB5 : Below w.heap.size w w5 := hB3.trans (hn5.below hB3.size (fun k hk => by
    rcases hk with hk | hk
    · have := hb2.size
      omega
    · exact (HO.out.lt hk).1))
  have HO5 := Lib.hid ho5; clear ho5 hv5 hn5
  go_wp2_with fail
  go_at_call 43
  refine (implPieces_pcs HO5.out.pcs (by have := HL.out; omega)).mono ?_
  rintro e w6 ⟨⟨v6, rfl, ho6⟩, hb6⟩
  have HO6 := Lib.hid ho6; clear ho6
  have hB6 := hB5.trans (hb6.mono hB5.size)
  go_wp2
  go_ret
  exact ⟨⟨_, rfl, HO6.out.pcs⟩, hB6⟩
end Go.Proofs.YthlnciihabhmaaaFmt
