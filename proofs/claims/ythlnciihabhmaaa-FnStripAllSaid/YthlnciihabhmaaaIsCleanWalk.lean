/-
  The walks of FnIsClean and FnStripAll. Conditions: the arguments read as lists of pieces.
-/
import Derived.Test.YthlnciihabhmaaaStrip
namespace Go.Proofs.Ythlnciihabhmaaa
open Go.ChangeShapes Go.WideShapes Go.ChangeAt Go.RowKit Go.Joins

theorem isClean_walk {W : World} {v0 : Value} {l0 : List Pc} (h0 : Pcs pV W v0 l0) (hl0 : (l0.length : Int) ≤ 9223372036854775807) (hs0 : ∀ p ∈ l0, (p.ss.length : Int) ≤ 9223372036854775807) :
    Calls Try.prog 3 #[v0] W fun e W' => e = .returned (.bool true) ∧ Below W.heap.size W W' := by
  obtain ⟨a0, cap0, rfl⟩ := h0.form
  have H0 := Lib.hid h0
  have S0 := Lib.hid hs0
  clear h0 hs0
  go_enter Try.func3, Try.ntmps3
  go_wp2_with fail
  go_at_call 8
  refine (fits1_pcs H0.out hl0 S0.out).mono ?_
  rintro e w1 ⟨⟨r, rfl, hr⟩, hB1⟩
  cases r
  · clear hr
    go_wp2
    go_ret
    exact ⟨rfl, hB1⟩
  have hm0 := hr rfl
  clear hr
  go_wp2_with fail
  go_at_call 9
  refine (lawsPieces_pcs (H0.out.below hB1) hm0).mono ?_
  rintro e w3 ⟨⟨x, rfl, hx⟩, hb3⟩
  obtain ⟨ax, capx, rfl⟩ := hx.pcs.form
  have X := Lib.hid hx.pcs; clear hx
  have hB3 := hB1.trans (hb3.mono hB1.size)
  go_wp2_with fail
  go_at_call 10
  refine (good_pcs X.out hm0 S0.out).mono ?_
  rintro e w5 ⟨⟨r, rfl, hr⟩, hb5⟩
  have hB5 := hB3.trans (hb5.mono hB3.size)
  cases r
  · clear hr
    go_wp2
    go_ret
    exact ⟨rfl, hB5⟩
  have GG := Lib.hid (hr rfl)
  have G0 := Lib.hid (good_facts (hr rfl))
  clear hr
  have X5 := Lib.hid (X.out.below hb5)
  clear hb3 hb5
  have n0 : (l0.length : Int) ≤ 1000 := by have := G0.out.len; omega
  have SN := Lib.hid (G0.out.short.le (n := 1000000) (by omega))
  have H5 := Lib.hid (H0.out.below hB5)
  by_cases hz : l0.length = 0
  · have hzb : ((l0.length : Int) == 0) = true := by simp [hz]
    go_wp2
    go_ret
    exact ⟨rfl, hB5⟩
  have hzb : ((l0.length : Int) == 0) = false := by simp; intro h; exact hz (by simp [h])
  obtain ⟨r, hr⟩ : ∃ r, cleanB l0 = r := ⟨_, rfl⟩
  have HR := Lib.hid hr; clear hr hz
  cases r
  all_goals
    go_wp2_with fail
    go_at_call 11
    refine (implIsClean H5.out n0 SN.out HR.out).mono ?_
    rintro e w6 ⟨rfl, hb6⟩
    have hB6 := hB5.trans (hb6.mono hB5.size)
    go_wp2_with fail
    go_at_call 12
    refine (clean_is (X5.out.below hb6) hm0 HR.out).mono ?_
    rintro e w' ⟨rfl, rfl⟩
    go_wp2
    go_ret
    exact ⟨rfl, hB6⟩
theorem stripAll_walk {W : World} {v0 : Value} {l0 : List Pc} (h0 : Pcs pV W v0 l0) (hl0 : (l0.length : Int) ≤ 9223372036854775807) (hs0 : ∀ p ∈ l0, (p.ss.length : Int) ≤ 9223372036854775807) :
    Calls Try.prog 6 #[v0] W fun e W' => e = .returned (.bool true) ∧ Below W.heap.size W W' := by
  obtain ⟨a0, cap0, rfl⟩ := h0.form
  have H0 := Lib.hid h0
  have S0 := Lib.hid hs0
  clear h0 hs0
  go_enter Try.func6, Try.ntmps6
  go_wp2_with fail
  go_at_call 8
  refine (fits1_pcs H0.out hl0 S0.out).mono ?_
  rintro e w1 ⟨⟨r, rfl, hr⟩, hB1⟩
  cases r
  · clear hr
    go_wp2
    go_ret
    exact ⟨rfl, hB1⟩
  have hm0 := hr rfl
  clear hr
  go_wp2_with fail
  go_at_call 9
  refine (lawsPieces_pcs (H0.out.below hB1) hm0).mono ?_
  rintro e w3 ⟨⟨x, rfl, hx⟩, hb3⟩
  obtain ⟨ax, capx, rfl⟩ := hx.pcs.form
  have X := Lib.hid hx.pcs; clear hx
  have hB3 := hB1.trans (hb3.mono hB1.size)
  go_wp2_with fail
  go_at_call 10
  refine (good_pcs X.out hm0 S0.out).mono ?_
  rintro e w5 ⟨⟨r, rfl, hr⟩, hb5⟩
  have hB5 := hB3.trans (hb5.mono hB3.size)
  cases r
  · clear hr
    go_wp2
    go_ret
    exact ⟨rfl, hB5⟩
  have GG := Lib.hid (hr rfl)
  have G0 := Lib.hid (good_facts (hr rfl))
  clear hr
  have X5 := Lib.hid (X.out.below hb5)
  clear hb3 hb5
  have n0 : (l0.length : Int) ≤ 1000 := by have := G0.out.len; omega
  have SN := Lib.hid (G0.out.short.le (n := 1000000) (by omega))
  have H5 := Lib.hid (H0.out.below hB5)
  by_cases hz : l0.length = 0
  · have hzb : ((l0.length : Int) == 0) = true := by simp [hz]
    go_wp2
    go_ret
    exact ⟨rfl, hB5⟩
  have hzb : ((l0.length : Int) == 0) = false := by simp; intro h; exact hz (by simp [h])
  obtain ⟨r, hr⟩ : ∃ r, cleanB l0 = r := ⟨_, rfl⟩
  have HR := Lib.hid hr; clear hr hz
  cases r
  all_goals
    go_wp2_with fail
    go_at_call 11
    refine (implIsClean H5.out n0 SN.out HR.out).mono ?_
    rintro e w6 ⟨rfl, hb6⟩
    have hB6 := hB5.trans (hb6.mono hB5.size)
    go_wp2_with fail
    go_at_call 12
    refine (clean_is (X5.out.below hb6) hm0 HR.out).mono ?_
    rintro e w' ⟨rfl, rfl⟩
    have H6 := Lib.hid (H5.out.below hb6)
    go_wp2_with fail
    go_at_call 21
    refine (implStripAll H6.out n0 SN.out).mono ?_
    rintro e w7 ⟨⟨a7, cap7, rfl⟩, hb7⟩
    have hB7 := hB6.trans (hb7.mono hB6.size)
    go_wp2
    go_ret
    exact ⟨rfl, hB7⟩
end Go.Proofs.Ythlnciihabhmaaa
