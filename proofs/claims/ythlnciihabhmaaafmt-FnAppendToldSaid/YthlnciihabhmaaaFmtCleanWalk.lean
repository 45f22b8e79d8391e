/-
  FnCleanEnd's walk: pieces end with a line, all comments stay, and what ends with a line stays as it is. Conditions: the arguments read as lists of pieces.
-/
import Derived.Test.YthlnciihabhmaaaFmtGood
namespace Go.Proofs.YthlnciihabhmaaaFmt
open Go.ChangeShapes Go.WideShapes Go.ChangeAt Go.RowKit Go.Joins

theorem comms_bound {ps : List Pc} (h : (ps.length : Int) ≤ 1000) (hs : Short 12 ps) : ((comms ps).length : Int) ≤ 9223372036854775807 := by
  have h1 := comms_le hs
  have h2 : ps.length * 12 ≤ 1000 * 12 := Nat.mul_le_mul_right _ (by omega)
  omega
theorem clean_walk {W : World} {v0 : Value} {l0 : List Pc} (h0 : Pcs pV W v0 l0) (hl0 : (l0.length : Int) ≤ 9223372036854775807) (hs0 : ∀ p ∈ l0, (p.ss.length : Int) ≤ 9223372036854775807) :
    Calls Tryf.prog 8 #[v0] W fun e W' => e = .returned (.bool true) ∧ Below W.heap.size W W' := by
  obtain ⟨a0, cap0, rfl⟩ := h0.form
  have H0 := Lib.hid h0
  have S0 := Lib.hid hs0
  clear h0 hs0
  go_enter Tryf.func8, Tryf.ntmps8
  go_wp2_with fail
  go_at_call 20
  refine (fits1_pcs H0.out hl0 S0.out).mono ?_
  rintro e w1 ⟨⟨r, rfl, hr⟩, hB1⟩
  cases r
  · clear hr
    go_wp2
    go_ret
    exact ⟨rfl, hB1⟩
  have hm0 := hr rfl
  clear hr
  go_wp2_with fail
  go_at_call 21
  refine (lawsPieces_pcs (H0.out.below hB1) hm0).mono ?_
  rintro e w3 ⟨⟨x, rfl, hx⟩, hb3⟩
  obtain ⟨ax, capx, rfl⟩ := hx.pcs.form
  have X := Lib.hid hx.pcs; clear hx
  have hB3 := hB1.trans (hb3.mono hB1.size)
  go_wp2_with fail
  go_at_call 22
  refine (good_pcs X.out hm0 S0.out).mono ?_
  rintro e w5 ⟨⟨r, rfl, hr⟩, hb5⟩
  have hB5 := hB3.trans (hb5.mono hB3.size)
  cases r
  · clear hr
    go_wp2
    go_ret
    exact ⟨rfl, hB5⟩
  have G0 := Lib.hid (good_facts (hr rfl))
  clear hr
  have X5 := Lib.hid (X.out.below hb5)
  clear hb3 hb5
  have n0 : (l0.length : Int) ≤ 1000 := by have := G0.out.len; omega
  go_wp2_with fail
  go_at_call 31
  refine (implClean (H0.out.below hB5) n0 G0.out.bl (G0.out.short.le (by omega))).mono ?_
  rintro e w7 ⟨⟨z, rfl, hz⟩, hb7⟩
  obtain ⟨az, capz, rfl⟩ := hz.form
  have Z7 := Lib.hid hz; clear hz
  have hB7 := hB5.trans (hb7.mono hB5.size)
  have LJ := endP_len l0
  have hmj : ((endP l0).length : Int) ≤ 2147483647 := by omega
  have hmk : ((endP l0).length : Int) ≤ 1000 := by have := G0.out.len; omega
  clear LJ
  have SE := Lib.hid G0.out.short.endP
  go_wp2_with fail
  go_at_call 21
  refine (lawsPieces_pcs Z7.out hmj).mono ?_
  rintro e w8 ⟨⟨z, rfl, hz⟩, hb8⟩
  obtain ⟨az, capz, rfl⟩ := hz.pcs.form
  have Z8 := Lib.hid hz.pcs; clear hz
  have hB8 := hB7.trans (hb8.mono hB7.size)
  have X8 := Lib.hid ((X5.out.below hb7).below hb8)
  go_wp2_with fail
  go_at_call 32
  refine (clean_is Z8.out hmj (endP_clean l0)).mono ?_
  rintro e w' ⟨rfl, rfl⟩
  go_wp2_with fail
  go_at_call 29
  refine (comments_pcs Z8.out hmj (SE.out.le (by omega)) (by omega)).mono ?_
  rintro e w9 ⟨⟨t1, rfl, ht1⟩, hb9⟩
  have T1 := Lib.hid ht1.comm; clear ht1
  obtain ⟨at1, capt1, rfl⟩ := T1.out.form
  have hB9 := hB8.trans (hb9.mono hB8.size)
  go_wp2_with fail
  go_at_call 29
  refine (comments_pcs (X8.out.below hb9) (by omega) (G0.out.short.le (by omega)) (by omega)).mono ?_
  rintro e w10 ⟨⟨t2, rfl, ht2⟩, hb10⟩
  have T2 := Lib.hid ht2.comm; clear ht2
  obtain ⟨at2, capt2, rfl⟩ := T2.out.form
  have hB10 := hB9.trans (hb10.mono hB9.size)
  have T1' := Lib.hid (T1.out.below hb10); clear T1
  have EC := Lib.hid (endP_comms l0)
  rw [EC.out] at T1'
  rw [EC.out]
  have X10 := Lib.hid ((X8.out.below hb9).below hb10)
  have Z10 := Lib.hid ((Z8.out.below hb9).below hb10)
  go_wp2_with fail
  go_at_call 28
  refine (sameTexts_comm T1'.out T2.out (comms_bound n0 G0.out.short)).mono ?_
  rintro e w11 ⟨rfl, hb11⟩
  have hB11 := hB10.trans (hb11.mono hB10.size)
  cases hc : cleanB l0
  · have HC := Lib.hid hc; clear hc
    go_wp2_with fail
    go_at_call 32
    refine (clean_is (X10.out.below hb11) (by omega) HC.out).mono ?_
    rintro e w' ⟨rfl, rfl⟩
    go_wp2
    go_ret
    exact ⟨rfl, hB11⟩
  · have HC := Lib.hid hc; clear hc
    go_wp2_with fail
    go_at_call 32
    refine (clean_is (X10.out.below hb11) (by omega) HC.out).mono ?_
    rintro e w' ⟨rfl, rfl⟩
    have Z11 := Lib.hid (Z10.out.below hb11)
    have EE := Lib.hid (endP_same HC.out)
    rw [EE.out] at Z11
    rw [EE.out]
    go_wp2_with fail
    go_at_call 24
    refine (samePieces_pcs Z11.out (X10.out.below hb11) (by omega) S0.out).mono ?_
    rintro e w12 ⟨rfl, hb12⟩
    have hB12 := hB11.trans (hb12.mono hB11.size)
    go_wp2
    go_ret
    exact ⟨rfl, hB12⟩
end Go.Proofs.YthlnciihabhmaaaFmt
