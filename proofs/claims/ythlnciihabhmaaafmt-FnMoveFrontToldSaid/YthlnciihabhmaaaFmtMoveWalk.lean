/-
  FnMoveFront's walk: what is moved to the front of others stands ahead of them, and nothing is left of it. Conditions: the arguments read as lists of pieces.
-/
import Derived.Test.YthlnciihabhmaaaFmtGood
import Derived.Test.YthlnciihabhmaaaFmtMove
namespace Go.Proofs.YthlnciihabhmaaaFmt
open Go.ChangeShapes Go.WideShapes Go.ChangeAt Go.RowKit Go.Joins

theorem moveFront_walk {W : World} {v0 v1 : Value} {l0 l1 : List Pc} (h0 : Pcs pV W v0 l0) (h1 : Pcs pV W v1 l1) (hl0 : (l0.length : Int) ≤ 9223372036854775807) (hl1 : (l1.length : Int) ≤ 9223372036854775807) (hs0 : ∀ p ∈ l0, (p.ss.length : Int) ≤ 9223372036854775807) (hs1 : ∀ p ∈ l1, (p.ss.length : Int) ≤ 9223372036854775807) :
    Calls Tryf.prog 11 #[v0, v1] W fun e W' => e = .returned (.bool true) ∧ Below W.heap.size W W' := by
  obtain ⟨a0, cap0, rfl⟩ := h0.form
  obtain ⟨a1, cap1, rfl⟩ := h1.form
  have H0 := Lib.hid h0
  have H1 := Lib.hid h1
  have S0 := Lib.hid hs0
  have S1 := Lib.hid hs1
  clear h0 h1 hs0 hs1
  go_enter Tryf.func11, Tryf.ntmps11
  go_wp2_with fail
  go_at_call 20
  refine (fits1_pcs H0.out hl0 S0.out).mono ?_
  rintro e w1 ⟨⟨r, rfl, hr⟩, hB1⟩
  cases r
  · clear hr
    go_wp2
    go_ret
    exact ⟨rfl, hB1⟩
  have hm0 := hr rfl
  clear hr
  go_wp2_with fail
  go_at_call 20
  refine (fits1_pcs (H1.out.below hB1) hl1 S1.out).mono ?_
  rintro e w2 ⟨⟨r, rfl, hr⟩, hb2⟩
  have hB2 := hB1.trans (hb2.mono hB1.size)
  clear hb2
  cases r
  · clear hr
    go_wp2
    go_ret
    exact ⟨rfl, hB2⟩
  have hm1 := hr rfl
  clear hr
  go_wp2_with fail
  go_at_call 21
  refine (lawsPieces_pcs (H0.out.below hB2) hm0).mono ?_
  rintro e w3 ⟨⟨x, rfl, hx⟩, hb3⟩
  obtain ⟨ax, capx, rfl⟩ := hx.pcs.form
  have X := Lib.hid hx.pcs; clear hx
  have hB3 := hB2.trans (hb3.mono hB2.size)
  go_wp2_with fail
  go_at_call 21
  refine (lawsPieces_pcs (H1.out.below hB3) hm1).mono ?_
  rintro e w4 ⟨⟨y, rfl, hy⟩, hb4⟩
  obtain ⟨ay, capy, rfl⟩ := hy.pcs.form
  have Y := Lib.hid hy.pcs; clear hy
  have hB4 := hB3.trans (hb4.mono hB3.size)
  have X4 := Lib.hid (X.out.below hb4)
  go_wp2_with fail
  go_at_call 22
  refine (good_pcs X4.out hm0 S0.out).mono ?_
  rintro e w5 ⟨⟨r, rfl, hr⟩, hb5⟩
  have hB5 := hB4.trans (hb5.mono hB4.size)
  cases r
  · clear hr
    go_wp2
    go_ret
    exact ⟨rfl, hB5⟩
  have G0 := Lib.hid (good_facts (hr rfl))
  clear hr
  have X5 := Lib.hid (X4.out.below hb5)
  have Y5 := Lib.hid (Y.out.below hb5)
  go_wp2_with fail
  go_at_call 22
  refine (good_pcs Y5.out hm1 S1.out).mono ?_
  rintro e w6 ⟨⟨r, rfl, hr⟩, hb6⟩
  have hB6 := hB5.trans (hb6.mono hB5.size)
  cases r
  · clear hr
    go_wp2
    go_ret
    exact ⟨rfl, hB6⟩
  have G1 := Lib.hid (good_facts (hr rfl))
  clear hr
  have X6 := Lib.hid (X5.out.below hb6)
  have Y6 := Lib.hid (Y5.out.below hb6)
  clear hb3 hb4 hb5 hb6
  have n0 : (l0.length : Int) ≤ 1000 := by have := G0.out.len; omega
  have n1 : (l1.length : Int) ≤ 1000 := by have := G1.out.len; omega
  go_wp2_with fail
  go_at_call 35
  refine (implMoveFront (H0.out.below hB6) (H1.out.below hB6) n0 n1 G0.out.kind G0.out.bl G1.out.bl (G0.out.short.le (by omega)) (G1.out.short.le (by omega))).mono ?_
  rintro e w7 ⟨⟨z, y, rfl, hz, ayy, cyy, rfl⟩, hb7⟩
  obtain ⟨az, capz, rfl⟩ := hz.form
  have Z7 := Lib.hid hz; clear hz
  have hB7 := hB6.trans (hb7.mono hB6.size)
  have LJ := joinP_len' l1 l0
  have hmj : ((joinP l1 l0).length : Int) ≤ 2147483647 := by omega
  clear LJ
  have X7 := Lib.hid (X6.out.below hb7)
  have Y7 := Lib.hid (Y6.out.below hb7)
  go_wp2_with fail
  go_at_call 21
  refine (lawsPieces_pcs Z7.out hmj).mono ?_
  rintro e w8 ⟨⟨z, rfl, hz⟩, hb8⟩
  obtain ⟨az, capz, rfl⟩ := hz.pcs.form
  have Z8 := Lib.hid hz.pcs; clear hz
  have hB8 := hB7.trans (hb8.mono hB7.size)
  have X8 := Lib.hid (X7.out.below hb8)
  have Y8 := Lib.hid (Y7.out.below hb8)
  go_wp2_with fail
  go_at_call 34
  refine (join_pcs Y8.out X8.out n1 n0 G0.out.kind G1.out.bl G0.out.bl).mono ?_
  rintro e w9 ⟨⟨q, rfl, hq⟩, hb9⟩
  obtain ⟨aq, capq, rfl⟩ := hq.form
  have Q9 := Lib.hid hq; clear hq
  have hB9 := hB8.trans (hb9.mono hB8.size)
  have Z9 := Lib.hid (Z8.out.below hb9)
  go_wp2_with fail
  go_at_call 24
  refine (samePieces_pcs Z9.out Q9.out hmj ((G1.out.short.joinP G0.out.short).int (by omega))).mono ?_
  rintro e w10 ⟨rfl, hb10⟩
  have hB10 := hB9.trans (hb10.mono hB9.size)
  go_wp2
  go_ret
  exact ⟨rfl, hB10⟩
end Go.Proofs.YthlnciihabhmaaaFmt
