/-
  FnJoinKeeps' walk: whatever is put behind others, all comments stay in their order, and no end of a line comes where it must not. Conditions: the arguments read as lists of pieces.
-/
import Derived.Test.YthlnciihabhmaaaFmtGood
import Derived.Test.YthlnciihabhmaaaFmtCleanWalk
namespace Go.Proofs.YthlnciihabhmaaaFmt
open Go.ChangeShapes Go.WideShapes Go.ChangeAt Go.RowKit Go.Joins

theorem kept_is {w : World} {v : Value} {ps : List Pc} (h : Pcs pV w v ps) (hm : (ps.length : Int) ≤ 2147483647) (hk : KeptP ps) :
    Calls Tryf.prog 27 #[v] w fun e w' => e = .returned (.bool true) ∧ Below w.heap.size w w' :=
  (kept_pcs h hm).mono fun e w' ⟨⟨r, he, hr⟩, hb⟩ => ⟨by rw [he, hr.2 hk], hb⟩
/-- Texts are appended to texts that the call owns. -/
theorem wpList_append_comm {w : World} {ops : Array Oper} {rest : List Oper} {o : Oper} {a : Act} {Q : Exit → Act → World → Prop} (hgd : o.guard = none) (s x : Operand)
    (ho : o.op = .call { callee := .builtin .append, args := #[s, x], argTypes := #[22, 22] }) {base : Nat} {v u : Value} {ss ts : List ByteArray} (hs : a.eval s = v) (hown : OwnT base w v ss) (hx : a.eval x = u) (hu : Comm w u ts)
    (hbd : (ss.length : Int) + ts.length ≤ 1000000) (hbase : base ≤ w.heap.size)
    (h : ∀ a' cap' w', OwnT base w' (.slice a' (ss ++ ts).length cap') (ss ++ ts) → Only (fun k => base ≤ k) w w' → wpList Tryf.prog ops Q rest (a.put o.dst (.slice a' (ss ++ ts).length cap')) w') : wpList Tryf.prog ops Q (o :: rest) a w := by
  obtain ⟨i0, hi0, hz0, hs0, hb0⟩ := infoStr
  rcases hu with ⟨rfl, a1, c1, rfl⟩ | ⟨h0, b, off, cap, rfl, hlt, hc⟩
  · have hf : ∃ a' cap', v = .slice a' ss.length cap' := by
      rcases hown.2 with ⟨rfl, h0⟩ | ⟨g, cap, cur, rfl, _⟩
      · exact ⟨none, 0, by rw [h0]⟩
      · exact ⟨_, cap, rfl⟩
    obtain ⟨a', cap', rfl⟩ := hf
    refine wpList_append_zero hgd s x 22 ho base 9 i0 1 Tryf.underlying22 hi0 _ _ _ hs hown a1 c1 hx ?_
    have := h a' cap' w (by rw [List.append_nil]; exact hown) (.refl _ _)
    rwa [List.append_nil] at this
  · refine wpList_append_lies w hgd s x 22 ho base 9 i0 (.string ByteArray.empty) 1 16 Tryf.underlying22 hi0 hz0 hs0 hb0 rfl (by omega) v ss.length (strV ss) hs hown ⟨b, off, none⟩ ts.length cap (strV ts) hx (by simp) (texts_news hc) (by simp [Value.oneCell']) h0 (by unfold maxLen; omega) (by omega) hbase _ rfl ?_
    intro g cap1 w' hown1 hgrow1 hat1 hlt1
    have e : ss.length + ts.length = (ss ++ ts).length := by simp
    rw [e] at hown1 ⊢
    refine h _ cap1 w' ?_ ?_
    · unfold OwnT
      rw [show strV (ss ++ ts) = strV ss ++ strV ts by simp [strV]]
      exact hown1
    · exact ⟨hgrow1.os, hgrow1.tape, hgrow1.output, hgrow1.size, fun k hk hn => hgrow1.block k hk (fun e => hn (hown.lt k e.symm).1)⟩
theorem comms_two {ps qs : List Pc} (h : (ps.length : Int) ≤ 1000) (hs : Short 12 ps) (h' : (qs.length : Int) ≤ 1000) (hs' : Short 12 qs) : ((comms ps).length : Int) + (comms qs).length ≤ 1000000 := by
  have h1 := comms_le hs
  have h2 : ps.length * 12 ≤ 1000 * 12 := Nat.mul_le_mul_right _ (by omega)
  have h3 := comms_le hs'
  have h4 : qs.length * 12 ≤ 1000 * 12 := Nat.mul_le_mul_right _ (by omega)
  omega

theorem joinKeeps_pos {W : World} {v0 v1 : Value} {l0 l1 : List Pc} (h0 : Pcs pV W v0 l0) (h1 : Pcs pV W v1 l1) (hl0 : (l0.length : Int) ≤ 9223372036854775807) (hl1 : (l1.length : Int) ≤ 9223372036854775807) (hs0 : ∀ p ∈ l0, (p.ss.length : Int) ≤ 9223372036854775807) (hs1 : ∀ p ∈ l1, (p.ss.length : Int) ≤ 9223372036854775807) (hz : 0 < l0.length + l1.length) :
    Calls Tryf.prog 10 #[v0, v1] W fun e W' => e = .returned (.bool true) ∧ Below W.heap.size W W' := by
  obtain ⟨a0, cap0, rfl⟩ := h0.form
  obtain ⟨a1, cap1, rfl⟩ := h1.form
  have H0 := Lib.hid h0
  have H1 := Lib.hid h1
  have S0 := Lib.hid hs0
  have S1 := Lib.hid hs1
  clear h0 h1 hs0 hs1
  go_enter Tryf.func10, Tryf.ntmps10
  go_wp2_with fail
  go_at_call 20
  refine (fits1_pcs H0.out hl0 S0.out).mono ?_
  rintro e w1 ⟨⟨r, rfl, hr⟩, hB1⟩
  cases r
  · clear hr
    go_wp2
    go_ret
    exact ⟨rfl, hB1⟩
  have hm0 := hr rfl
  clear hr
  go_wp2_with fail
  go_at_call 20
  refine (fits1_pcs (H1.out.below hB1) hl1 S1.out).mono ?_
  rintro e w2 ⟨⟨r, rfl, hr⟩, hb2⟩
  have hB2 := hB1.trans (hb2.mono hB1.size)
  clear hb2
  cases r
  · clear hr
    go_wp2
    go_ret
    exact ⟨rfl, hB2⟩
  have hm1 := hr rfl
  clear hr
  go_wp2_with fail
  go_at_call 21
  refine (lawsPieces_pcs (H0.out.below hB2) hm0).mono ?_
  rintro e w3 ⟨⟨x, rfl, hx⟩, hb3⟩
  obtain ⟨ax, capx, rfl⟩ := hx.pcs.form
  have X := Lib.hid hx.pcs; clear hx
  have hB3 := hB2.trans (hb3.mono hB2.size)
  go_wp2_with fail
  go_at_call 21
  refine (lawsPieces_pcs (H1.out.below hB3) hm1).mono ?_
  rintro e w4 ⟨⟨y, rfl, hy⟩, hb4⟩
  obtain ⟨ay, capy, rfl⟩ := hy.pcs.form
  have Y := Lib.hid hy.pcs; clear hy
  have hB4 := hB3.trans (hb4.mono hB3.size)
  have X4 := Lib.hid (X.out.below hb4)
  go_wp2_with fail
  go_at_call 22
  refine (good_pcs X4.out hm0 S0.out).mono ?_
  rintro e w5 ⟨⟨r, rfl, hr⟩, hb5⟩
  have hB5 := hB4.trans (hb5.mono hB4.size)
  cases r
  · clear hr
    go_wp2
    go_ret
    exact ⟨rfl, hB5⟩
  have G0 := Lib.hid (good_facts (hr rfl))
  clear hr
  have X5 := Lib.hid (X4.out.below hb5)
  have Y5 := Lib.hid (Y.out.below hb5)
  go_wp2_with fail
  go_at_call 22
  refine (good_pcs Y5.out hm1 S1.out).mono ?_
  rintro e w6 ⟨⟨r, rfl, hr⟩, hb6⟩
  have hB6 := hB5.trans (hb6.mono hB5.size)
  cases r
  · clear hr
    go_wp2
    go_ret
    exact ⟨rfl, hB6⟩
  have G1 := Lib.hid (good_facts (hr rfl))
  clear hr
  have X6 := Lib.hid (X5.out.below hb6)
  have Y6 := Lib.hid (Y5.out.below hb6)
  clear hb3 hb4 hb5 hb6
  have n0 : (l0.length : Int) ≤ 1000 := by have := G0.out.len; omega
  have n1 : (l1.length : Int) ≤ 1000 := by have := G1.out.len; omega
  go_wp2_with fail
  go_at_call 33
  refine (implJoin (H0.out.below hB6) (H1.out.below hB6) n0 n1 G1.out.kind G0.out.bl G1.out.bl (G0.out.short.le (by omega)) (G1.out.short.le (by omega))).mono ?_
  rintro e w7 ⟨⟨z, rfl, hz⟩, hb7⟩
  obtain ⟨az, capz, rfl⟩ := hz.form
  have Z7 := Lib.hid hz; clear hz
  have hB7 := hB6.trans (hb7.mono hB6.size)
  have LJ := joinP_len' l0 l1
  have hmk : ((joinP l0 l1).length : Int) ≤ 1000 := by have := G0.out.len; have := G1.out.len; omega
  have hmj : ((joinP l0 l1).length : Int) ≤ 2147483647 := by omega
  clear LJ
  have SJ := Lib.hid (G0.out.short.joinP G1.out.short)
  have EC := Lib.hid (joinP_comms l0 l1)
  go_wp2_with fail
  go_at_call 21
  refine (lawsPieces_pcs Z7.out hmj).mono ?_
  rintro e w8 ⟨⟨z, rfl, hz⟩, hb8⟩
  obtain ⟨az, capz, rfl⟩ := hz.pcs.form
  have Z8 := Lib.hid hz.pcs; clear hz
  have hB8 := hB7.trans (hb8.mono hB7.size)
  have X8 := Lib.hid ((X6.out.below hb7).below hb8)
  have Y8 := Lib.hid ((Y6.out.below hb7).below hb8)
  have hbE := below_alloc1 w8 (.cells #[] 9)
  have hOE : OwnT w8.heap.size (w8.alloc (.cells #[] 9)) (.slice (some ⟨w8.heap.size, 0, none⟩) 0 0) [] := ⟨rfl, .inr ⟨w8.heap.size, 0, #[], rfl, Nat.le_refl _, heap_alloc_new w8 _, Nat.le_refl _, by unfold maxLen; omega, rfl, rfl⟩⟩
  have OE := Lib.hid hOE; clear hOE
  go_wp2_with fail
  go_at_call 29
  refine (comments_pcs (X8.out.below hbE) (by omega) (G0.out.short.le (by omega)) (by omega)).mono ?_
  rintro e w9 ⟨⟨t1, rfl, ht1⟩, hb9⟩
  have T1 := Lib.hid ht1.comm; clear ht1
  obtain ⟨at1, capt1, rfl⟩ := T1.out.form
  have hc9 := hbE.trans (hb9.mono hbE.size)
  have OE9 := Lib.hid (show OwnT w8.heap.size w9 (.slice (some ⟨w8.heap.size, 0, none⟩) 0 0) [] from ownsRow_below OE.out hb9)
  have hcm := comms_two n0 G0.out.short n1 G1.out.short
  go_wp2_with (at_builtin; refine wpList_append_comm rfl (.tmp 33) (.tmp 35) rfl (v := .slice (some ⟨w8.heap.size, 0, none⟩) 0 0) rfl OE9.out rfl T1.out (by simp; omega) hc9.size ?_; intro aA capA wA hoA hnA; rw [List.nil_append] at hoA)
  have OA := Lib.hid hoA; clear hoA
  have hcA := hc9.trans (hnA.below hc9.size (fun k hk => hk))
  go_at_call 29
  refine (comments_pcs (Y8.out.below hcA) (by omega) (G1.out.short.le (by omega)) (by omega)).mono ?_
  rintro e w10 ⟨⟨t2, rfl, ht2⟩, hb10⟩
  have T2 := Lib.hid ht2.comm; clear ht2
  obtain ⟨at2, capt2, rfl⟩ := T2.out.form
  have hc10 := hcA.trans (hb10.mono hcA.size)
  have OA10 := Lib.hid (show OwnT w8.heap.size w10 (.slice aA (comms l0).length capA) (comms l0) from ownsRow_below OA.out hb10)
  have hp := joinP_pos hz
  have hne : ¬ joinP l0 l1 = [] := fun e => by rw [e] at hp; simp at hp
  have hne2 : (joinP l0 l1).isEmpty = false := by rw [List.isEmpty_eq_false_iff]; exact hne
  go_wp2_with (at_builtin; refine wpList_append_comm rfl (.tmp 36) (.tmp 38) rfl (v := .slice aA (comms l0).length capA) rfl OA10.out rfl T2.out hcm hc10.size ?_; intro aB capB wB hoB hnB)
  have OB := Lib.hid hoB.comm
  have hlB : (comms l0 ++ comms l1).length = (comms l0).length + (comms l1).length := List.length_append
  rw [hlB] at OB
  have hcB := hc10.trans (hnB.below hc10.size (fun k hk => hk))
  have hBB := hB8.trans (hcB.mono hB8.size)
  clear hbE hb9 hc9 hnA hcA hb10 hc10 hnB hoB hlB
  have Z9 := Lib.hid (Z8.out.below hcB)
  go_wp2_with fail
  go_at_call 27
  refine (kept_is Z9.out hmj (joinP_kept G0.out.kept G1.out.kept)).mono ?_
  rintro e w11 ⟨rfl, hb11⟩
  have hB11 := hBB.trans (hb11.mono hBB.size)
  have Z11 := Lib.hid (Z9.out.below hb11)
  have OB11 := Lib.hid (OB.out.below hb11)
  go_wp2_with fail
  go_at_call 29
  refine (comments_pcs Z11.out hmj (SJ.out.le (by omega)) (by omega)).mono ?_
  rintro e w12 ⟨⟨t3, rfl, ht3⟩, hb12⟩
  have T3 := Lib.hid ht3.comm; clear ht3
  obtain ⟨at3, capt3, rfl⟩ := T3.out.form
  have hB12 := hB11.trans (hb12.mono hB11.size)
  have OC := Lib.hid (EC.out.symm ▸ OB11.out.below hb12)
  have hlc : ((comms (joinP l0 l1)).length : Int) ≤ 9223372036854775807 := by rw [EC.out, List.length_append]; omega
  go_wp2_with fail
  go_at_call 28
  refine (sameTexts_comm T3.out OC.out hlc).mono ?_
  rintro e w13 ⟨rfl, hb13⟩
  have hB13 := hB12.trans (hb13.mono hB12.size)
  go_wp2
  go_ret
  exact ⟨rfl, hB13⟩
theorem joinKeeps_nil {W : World} {v0 v1 : Value} (h0 : Pcs pV W v0 []) (h1 : Pcs pV W v1 []) (hl0 : (([] : List Pc).length : Int) ≤ 9223372036854775807) (hl1 : (([] : List Pc).length : Int) ≤ 9223372036854775807) (hs0 : ∀ p ∈ ([] : List Pc), (p.ss.length : Int) ≤ 9223372036854775807) (hs1 : ∀ p ∈ ([] : List Pc), (p.ss.length : Int) ≤ 9223372036854775807) :
    Calls Tryf.prog 10 #[v0, v1] W fun e W' => e = .returned (.bool true) ∧ Below W.heap.size W W' := by
  obtain ⟨a0, cap0, rfl⟩ := h0.form
  obtain ⟨a1, cap1, rfl⟩ := h1.form
  have H0 := Lib.hid h0
  have H1 := Lib.hid h1
  have S0 := Lib.hid hs0
  have S1 := Lib.hid hs1
  clear h0 h1 hs0 hs1
  go_enter Tryf.func10, Tryf.ntmps10
  go_wp2_with fail
  go_at_call 20
  refine (fits1_pcs H0.out hl0 S0.out).mono ?_
  rintro e w1 ⟨⟨r, rfl, hr⟩, hB1⟩
  cases r
  · clear hr
    go_wp2
    go_ret
    exact ⟨rfl, hB1⟩
  have hm0 := hr rfl
  clear hr
  go_wp2_with fail
  go_at_call 20
  refine (fits1_pcs (H1.out.below hB1) hl1 S1.out).mono ?_
  rintro e w2 ⟨⟨r, rfl, hr⟩, hb2⟩
  have hB2 := hB1.trans (hb2.mono hB1.size)
  clear hb2
  cases r
  · clear hr
    go_wp2
    go_ret
    exact ⟨rfl, hB2⟩
  have hm1 := hr rfl
  clear hr
  go_wp2_with fail
  go_at_call 21
  refine (lawsPieces_pcs (H0.out.below hB2) hm0).mono ?_
  rintro e w3 ⟨⟨x, rfl, hx⟩, hb3⟩
  obtain ⟨ax, capx, rfl⟩ := hx.pcs.form
  have X := Lib.hid hx.pcs; clear hx
  have hB3 := hB2.trans (hb3.mono hB2.size)
  go_wp2_with fail
  go_at_call 21
  refine (lawsPieces_pcs (H1.out.below hB3) hm1).mono ?_
  rintro e w4 ⟨⟨y, rfl, hy⟩, hb4⟩
  obtain ⟨ay, capy, rfl⟩ := hy.pcs.form
  have Y := Lib.hid hy.pcs; clear hy
  have hB4 := hB3.trans (hb4.mono hB3.size)
  have X4 := Lib.hid (X.out.below hb4)
  go_wp2_with fail
  go_at_call 22
  refine (good_pcs X4.out hm0 S0.out).mono ?_
  rintro e w5 ⟨⟨r, rfl, hr⟩, hb5⟩
  have hB5 := hB4.trans (hb5.mono hB4.size)
  cases r
  · clear hr
    go_wp2
    go_ret
    exact ⟨rfl, hB5⟩
  have G0 := Lib.hid (good_facts (hr rfl))
  clear hr
  have X5 := Lib.hid (X4.out.below hb5)
  have Y5 := Lib.hid (Y.out.below hb5)
  go_wp2_with fail
  go_at_call 22
  refine (good_pcs Y5.out hm1 S1.out).mono ?_
  rintro e w6 ⟨⟨r, rfl, hr⟩, hb6⟩
  have hB6 := hB5.trans (hb6.mono hB5.size)
  cases r
  · clear hr
    go_wp2
    go_ret
    exact ⟨rfl, hB6⟩
  have G1 := Lib.hid (good_facts (hr rfl))
  clear hr
  have X6 := Lib.hid (X5.out.below hb6)
  have Y6 := Lib.hid (Y5.out.below hb6)
  clear hb3 hb4 hb5 hb6
  have n0 : (([] : List Pc).length : Int) ≤ 1000 := by have := G0.out.len; omega
  have n1 : (([] : List Pc).length : Int) ≤ 1000 := by have := G1.out.len; omega
  go_wp2_with fail
  go_at_call 33
  refine (implJoin (H0.out.below hB6) (H1.out.below hB6) n0 n1 G1.out.kind G0.out.bl G1.out.bl (G0.out.short.le (by omega)) (G1.out.short.le (by omega))).mono ?_
  rintro e w7 ⟨⟨z, rfl, hz⟩, hb7⟩
  obtain ⟨az, capz, rfl⟩ := hz.form
  have Z7 := Lib.hid hz; clear hz
  have hB7 := hB6.trans (hb7.mono hB6.size)
  have LJ := joinP_len' [] []
  have hmk : ((joinP [] []).length : Int) ≤ 1000 := by have := G0.out.len; have := G1.out.len; omega
  have hmj : ((joinP [] []).length : Int) ≤ 2147483647 := by omega
  clear LJ
  have SJ := Lib.hid (G0.out.short.joinP G1.out.short)
  have EC := Lib.hid (joinP_comms [] [])
  go_wp2_with fail
  go_at_call 21
  refine (lawsPieces_pcs Z7.out hmj).mono ?_
  rintro e w8 ⟨⟨z, rfl, hz⟩, hb8⟩
  obtain ⟨az, capz, rfl⟩ := hz.pcs.form
  have Z8 := Lib.hid hz.pcs; clear hz
  have hB8 := hB7.trans (hb8.mono hB7.size)
  have X8 := Lib.hid ((X6.out.below hb7).below hb8)
  have Y8 := Lib.hid ((Y6.out.below hb7).below hb8)
  have hbE := below_alloc1 w8 (.cells #[] 9)
  have hOE : OwnT w8.heap.size (w8.alloc (.cells #[] 9)) (.slice (some ⟨w8.heap.size, 0, none⟩) 0 0) [] := ⟨rfl, .inr ⟨w8.heap.size, 0, #[], rfl, Nat.le_refl _, heap_alloc_new w8 _, Nat.le_refl _, by unfold maxLen; omega, rfl, rfl⟩⟩
  have OE := Lib.hid hOE; clear hOE
  go_wp2_with fail
  go_at_call 29
  refine (comments_pcs (X8.out.below hbE) (by omega) (G0.out.short.le (by omega)) (by omega)).mono ?_
  rintro e w9 ⟨⟨t1, rfl, ht1⟩, hb9⟩
  have T1 := Lib.hid ht1.comm; clear ht1
  obtain ⟨at1, capt1, rfl⟩ := T1.out.form
  have hc9 := hbE.trans (hb9.mono hbE.size)
  have OE9 := Lib.hid (show OwnT w8.heap.size w9 (.slice (some ⟨w8.heap.size, 0, none⟩) 0 0) [] from ownsRow_below OE.out hb9)
  have hcm := comms_two n0 G0.out.short n1 G1.out.short
  go_wp2_with (at_builtin; refine wpList_append_comm rfl (.tmp 33) (.tmp 35) rfl (v := .slice (some ⟨w8.heap.size, 0, none⟩) 0 0) rfl OE9.out rfl T1.out (by simp; omega) hc9.size ?_; intro aA capA wA hoA hnA; rw [List.nil_append] at hoA)
  have OA := Lib.hid hoA; clear hoA
  have hcA := hc9.trans (hnA.below hc9.size (fun k hk => hk))
  go_at_call 29
  refine (comments_pcs (Y8.out.below hcA) (by omega) (G1.out.short.le (by omega)) (by omega)).mono ?_
  rintro e w10 ⟨⟨t2, rfl, ht2⟩, hb10⟩
  have T2 := Lib.hid ht2.comm; clear ht2
  obtain ⟨at2, capt2, rfl⟩ := T2.out.form
  have hc10 := hcA.trans (hb10.mono hcA.size)
  have OA10 := Lib.hid (show OwnT w8.heap.size w10 (.slice aA (comms []).length capA) (comms []) from ownsRow_below OA.out hb10)
  have ej : joinP ([] : List Pc) [] = [] := rfl
  go_wp2_with (at_builtin; refine wpList_append_comm rfl (.tmp 36) (.tmp 38) rfl (v := .slice aA (comms []).length capA) rfl OA10.out rfl T2.out hcm hc10.size ?_; intro aB capB wB hoB hnB)
  have OB := Lib.hid hoB.comm
  have hlB : (comms [] ++ comms []).length = (comms []).length + (comms []).length := List.length_append
  rw [hlB] at OB
  have hcB := hc10.trans (hnB.below hc10.size (fun k hk => hk))
  have hBB := hB8.trans (hcB.mono hB8.size)
  clear hbE hb9 hc9 hnA hcA hb10 hc10 hnB hoB hlB
  have Z9 := Lib.hid (Z8.out.below hcB)
  go_wp2_with fail
  go_at_call 27
  refine (kept_is Z9.out hmj (joinP_kept G0.out.kept G1.out.kept)).mono ?_
  rintro e w11 ⟨rfl, hb11⟩
  have hB11 := hBB.trans (hb11.mono hBB.size)
  have Z11 := Lib.hid (Z9.out.below hb11)
  have OB11 := Lib.hid (OB.out.below hb11)
  go_wp2_with fail
  go_at_call 29
  refine (comments_pcs Z11.out hmj (SJ.out.le (by omega)) (by omega)).mono ?_
  rintro e w12 ⟨⟨t3, rfl, ht3⟩, hb12⟩
  have T3 := Lib.hid ht3.comm; clear ht3
  obtain ⟨at3, capt3, rfl⟩ := T3.out.form
  have hB12 := hB11.trans (hb12.mono hB11.size)
  have OC := Lib.hid (EC.out.symm ▸ OB11.out.below hb12)
  have hlc : ((comms (joinP [] [])).length : Int) ≤ 9223372036854775807 := by rw [EC.out, List.length_append]; omega
  go_wp2_with fail
  go_at_call 28
  refine (sameTexts_comm T3.out OC.out hlc).mono ?_
  rintro e w13 ⟨rfl, hb13⟩
  have hB13 := hB12.trans (hb13.mono hB12.size)
  go_wp2
  go_ret
  exact ⟨rfl, hB13⟩
theorem joinKeeps_walk {W : World} {v0 v1 : Value} {l0 l1 : List Pc} (h0 : Pcs pV W v0 l0) (h1 : Pcs pV W v1 l1) (hl0 : (l0.length : Int) ≤ 9223372036854775807) (hl1 : (l1.length : Int) ≤ 9223372036854775807) (hs0 : ∀ p ∈ l0, (p.ss.length : Int) ≤ 9223372036854775807) (hs1 : ∀ p ∈ l1, (p.ss.length : Int) ≤ 9223372036854775807) :
    Calls Tryf.prog 10 #[v0, v1] W fun e W' => e = .returned (.bool true) ∧ Below W.heap.size W W' := by
  by_cases hz : 0 < l0.length + l1.length
  · exact joinKeeps_pos h0 h1 hl0 hl1 hs0 hs1 hz
  · obtain rfl : l0 = [] := List.eq_nil_of_length_eq_zero (by omega)
    obtain rfl : l1 = [] := List.eq_nil_of_length_eq_zero (by omega)
    exact joinKeeps_nil h0 h1 hl0 hl1 hs0 hs1
end Go.Proofs.YthlnciihabhmaaaFmt
