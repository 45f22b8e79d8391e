/-
  The walk of FnStripComments. Conditions: the arguments read as lists of pieces.
-/
import Derived.Test.YthlnciihabhmaaaStripC
namespace Go.Proofs.Ythlnciihabhmaaa
open Go.ChangeShapes Go.WideShapes Go.ChangeAt Go.RowKit Go.Joins

theorem stripC_walk {W : World} {v0 : Value} {l0 : List Pc} (h0 : Pcs pV W v0 l0) (hl0 : (l0.length : Int) ≤ 9223372036854775807) (hs0 : ∀ p ∈ l0, (p.ss.length : Int) ≤ 9223372036854775807) :
    Calls Try.prog 7 #[v0] W fun e W' => e = .returned (.bool true) ∧ Below W.heap.size W W' := by
  obtain ⟨a0, cap0, rfl⟩ := h0.form
  have H0 := Lib.hid h0
  have S0 := Lib.hid hs0
  clear h0 hs0
  go_enter Try.func7, Try.ntmps7
  go_wp2_with fail
  go_at_call 8
  refine (fits1_pcs H0.out hl0 S0.out).mono ?_
  rintro e w1 ⟨⟨r, rfl, hr⟩, hB1⟩
  cases r
  · clear hr
    go_wp2
    go_ret
    exact ⟨rfl, hB1⟩
  have hm0 := hr rfl
  clear hr
  go_wp2_with fail
  go_at_call 9
  refine (lawsPieces_pcs (H0.out.below hB1) hm0).mono ?_
  rintro e w3 ⟨⟨x, rfl, hx⟩, hb3⟩
  obtain ⟨ax, capx, rfl⟩ := hx.pcs.form
  have X := Lib.hid hx.pcs; clear hx
  have hB3 := hB1.trans (hb3.mono hB1.size)
  go_wp2_with fail
  go_at_call 10
  refine (good_pcs X.out hm0 S0.out).mono ?_
  rintro e w5 ⟨⟨r, rfl, hr⟩, hb5⟩
  have hB5 := hB3.trans (hb5.mono hB3.size)
  cases r
  · clear hr
    go_wp2
    go_ret
    exact ⟨rfl, hB5⟩
  have GG := Lib.hid (hr rfl)
  have G0 := Lib.hid (good_facts (hr rfl))
  clear hr
  have X5 := Lib.hid (X.out.below hb5)
  clear hb3 hb5
  have n0 : (l0.length : Int) ≤ 1000 := by have := G0.out.len; omega
  have SN := Lib.hid (G0.out.short.le (n := 1000000) (by omega))
  have H5 := Lib.hid (H0.out.below hB5)
  go_wp2_with fail
  go_at_call 22
  refine (implStripC H5.out n0 SN.out).mono ?_
  rintro e w7 ⟨⟨z, rfl, hz⟩, hb7⟩
  obtain ⟨az, capz, rfl⟩ := hz.form
  have Z7 := Lib.hid hz; clear hz
  have hB7 := hB5.trans (hb7.mono hB5.size)
  have LJ := noComm_len l0
  have hmj : ((noComm l0).length : Int) ≤ 2147483647 := by omega
  have hmk : (noComm l0).length ≤ 1000 := by omega
  clear LJ
  have NS := Lib.hid (noComm_ss l0)
  have NC := Lib.hid (noComm_comms l0)
  go_wp2_with fail
  go_at_call 9
  refine (lawsPieces_pcs Z7.out hmj).mono ?_
  rintro e w8 ⟨⟨z, rfl, hz⟩, hb8⟩
  obtain ⟨az, capz, rfl⟩ := hz.pcs.form
  have Z8 := Lib.hid hz.pcs; clear hz
  have hB8 := hB7.trans (hb8.mono hB7.size)
  have X8 := Lib.hid ((X5.out.below hb7).below hb8)
  go_wp2_with fail
  go_at_call 23
  refine (comments_pcs Z8.out hmj (fun p hp => by rw [NS.out p hp]; simp) hmk).mono ?_
  rintro e w9 ⟨⟨t1, rfl, ht1⟩, hb9⟩
  have T1 := Lib.hid ht1.comm; clear ht1
  rw [NC.out] at T1
  obtain ⟨at1, capt1, rfl⟩ := T1.out.form
  have hB9 := hB8.trans (hb9.mono hB8.size)
  have X9 := Lib.hid (X8.out.below hb9)
  have Z9 := Lib.hid (Z8.out.below hb9)
  go_wp2_with fail
  go_at_call 23
  refine (comments_pcs X9.out (by omega) (G0.out.short.le (by omega)) (by omega)).mono ?_
  rintro e w10 ⟨⟨t2, rfl, ht2⟩, hb10⟩
  have T2 := Lib.hid ht2.comm; clear ht2
  obtain ⟨at2, capt2, rfl⟩ := T2.out.form
  have hB10 := hB9.trans (hb10.mono hB9.size)
  by_cases hc : 0 < (comms l0).length
  · go_wp2
    go_ret
    exact ⟨rfl, hB10⟩
  · have hc0 : (comms l0).length = 0 := by omega
    have NE := Lib.hid (noComm_same GG.out.1 (List.eq_nil_of_length_eq_zero hc0))
    have X10 := Lib.hid (X9.out.below hb10)
    have Z10 := Lib.hid (Z9.out.below hb10)
    rw [NE.out] at Z10
    rw [NE.out]
    rw [hc0]
    go_wp2_with fail
    go_at_call 24
    refine (samePieces_pcs Z10.out X10.out (by omega) S0.out).mono ?_
    rintro e w12 ⟨rfl, hb12⟩
    have hB12 := hB10.trans (hb12.mono hB10.size)
    go_wp2
    go_ret
    exact ⟨rfl, hB12⟩
end Go.Proofs.Ythlnciihabhmaaa
