/-
  FnStyleString's walk. Conditions: the library's tables.
-/
import Derived.Test.YtceepfnjdkfjnaaFmtStrImpl
import Derived.Test.YtceepfnjdkfjnaaFmtStrEnd
import Derived.Test.YtceepfnjdkfjnaaFmtStrQuote
namespace Go.Proofs.YtceepfnjdkfjnaaFmt
open Go.ChangeShapes Go.WideShapes Go.ChangeAt Go.RowKit Go.Joins Go.Extern.Stop Go.Stop Go.Extern

theorem unL_len : ∀ (n : Nat) {l : List UInt8}, l.length ≤ n → Val l → (unL l).1 = 1 → (unL l).2.length ≤ l.length := by
  intro n
  induction n with
  | zero => intro l h _ _; rw [List.eq_nil_of_length_eq_zero (by omega : l.length = 0)]; exact Nat.le_refl _
  | succ n ih =>
    intro l h hv hf
    have el : ∀ r : Nat, (enc r).length ≤ 4 := fun r => by have := Lib.encodeRuneZ_length_le (r : Int); simpa [enc, Lib.encodeRune] using this
    by_cases hl : l = []
    · subst hl; exact Nat.le_refl _
    rcases unL_cases hv hl hf with ⟨r, t, _, hs, ht, rfl, e⟩ | ⟨x, t, _, hx, ht, rfl, e⟩ | ⟨t, h0, hsr, ht, rfl, e⟩ | ⟨t, u, h1, h2, hd, h3, h4, ht, rfl, e⟩
    · rw [e] at hf ⊢
      have := List.length_pos_iff.2 (enc_ne r)
      rw [List.length_append] at h ⊢
      have := ih (l := t) (by omega) ht hf
      rw [List.length_append]; omega
    · rw [e] at hf ⊢
      simp at h
      have := ih (l := t) (by omega) ht hf
      have := esc_len x
      rw [List.length_append]; simp; omega
    · rw [e] at hf ⊢
      simp at h
      obtain ⟨_, _, _, _, u, hu, _⟩ := four_parts h0
      have hlen : t.length = u.length + 4 := by rw [hu]; simp
      have hd4 : (t.drop 4).length = u.length := by rw [hu]; rfl
      have := ih (l := t.drop 4) (by omega) ht hf
      have := el (fourF t).toNat
      rw [List.length_append]; simp only [List.length_cons]; omega
    · rw [e] at hf ⊢
      simp at h
      have q := congrArg List.length hd
      simp at q
      obtain ⟨_, _, _, _, u', hu, _⟩ := four_parts (t := u) (by omega)
      have hlen : u.length = u'.length + 4 := by rw [hu]; simp
      have hd4 : (u.drop 4).length = u'.length := by rw [hu]; rfl
      have := ih (l := u.drop 4) (by omega) ht hf
      have := el (65536 + (fourF t - 55296) * 1024 + fourF u - 56320).toNat
      rw [List.length_append]; simp only [List.length_cons]; omega
set_option maxHeartbeats 8000000 in
set_option maxRecDepth 1000000 in
theorem styleLaw_walk (F : Interp) (st kd : Int) (v : ByteArray) (w : World) (hF : F.told.answers w.tape) (HT0 : Lib.Utf8Tabs 0 1 w) (HE0 : ∃ ev, w.cell? ⟨3, 0, none⟩ = some ev) :
    Calls Tryf.prog 3 #[.int .i64 st, .int .i64 kd, .string v] w fun e w' => e = .returned (.bool true) ∧ Below w.heap.size w w' := by
  have HFF := Lib.hid hF; have HT := Lib.hid HT0; have HE := Lib.hid HE0
  clear hF HT0 HE0
  by_cases hbig : v.size ≤ 2147483647
  rotate_left
  · have d : (v.size : Int) > 2147483647 := by omega
    clear hbig
    go_enter Tryf.func3, Tryf.ntmps3
    go_wp2
    go_ret
    exact ⟨rfl, Below.refl _ _⟩
  have d : ¬ (v.size : Int) > 2147483647 := by omega
  have HU := Lib.hid (unescape_any v hbig w)
  go_enter Tryf.func3, Tryf.ntmps3
  go_wp2_with fail
  refine HU.out.mono ?_
  rintro e w1 ⟨⟨x, sta, rfl, hy, hn⟩, hb1⟩
  have HY := Lib.hid hy; have HN := Lib.hid hn; have HB1 := Lib.hid hb1
  clear hy hn hb1
  by_cases a1 : st < 0
  · go_wp2
    go_ret
    exact ⟨rfl, HB1.out⟩
  by_cases a2 : 1 < st
  · go_wp2
    go_ret
    exact ⟨rfl, HB1.out⟩
  by_cases a3 : kd < 0
  · go_wp2
    go_ret
    exact ⟨rfl, HB1.out⟩
  by_cases a4 : 1 < kd
  · go_wp2
    go_ret
    exact ⟨rfl, HB1.out⟩
  by_cases a5 : 400 < v.size
  · have a5' : (400 : Int) < (v.size : Int) := by omega
    go_wp2
    go_ret
    exact ⟨rfl, HB1.out⟩
  have a5' : ¬ (400 : Int) < (v.size : Int) := by omega
  by_cases a6 : sta = 1
  rotate_left
  · have d6 : (sta == 1) = false := by simp [a6]
    go_wp2
    go_ret
    exact ⟨rfl, HB1.out⟩
  subst a6
  have hv : Val v.data.toList := Classical.byContradiction fun h => by cases HN.out h
  obtain ⟨hf, hx⟩ := HY.out hv
  have hf1 : (unL v.data.toList).1 = 1 := hf.symm
  have hx1 : x = bs (unL v.data.toList).2 := by rw [← hx rfl, bs_list]
  have hlen : (unL v.data.toList).2.length ≤ 400 := by
    have := unL_len _ (Nat.le_refl _) hv hf1
    rw [← Lib.size_eq] at this
    omega
  obtain ⟨cs, hcs, hsay⟩ := unL_val _ (Nat.le_refl _) hv hf1
  subst hx1
  have hst : st = 0 ∨ st = 1 := by omega
  have hkd : kd = 0 ∨ kd = 1 := by omega
  have hkq : kd = if (kd == 0) then 0 else 1 := by rcases hkd with rfl | rfl <;> rfl
  have HQ := Lib.hid (quote_any (kd == 0) kd hkq)
  have HBR := Lib.hid (fun (W : World) => bare_any v hbig (quoteF (kd == 0)) _ rfl W)
  have HVV := Lib.hid hv; have HF1 := Lib.hid hf1; have HLE := Lib.hid hlen; have HCS := Lib.hid hcs; have HSAY := Lib.hid hsay; have HST := Lib.hid hst; have HKD := Lib.hid hkd
  clear hf hx hv hf1 hlen hcs hsay hst hkd hkq HY HN
  obtain ⟨q, hq⟩ : ∃ q : Int, ((quoteF (kd == 0)).toNat : Int) = q := ⟨_, rfl⟩
  rw [hq] at HQ HBR
  obtain ⟨r, hr⟩ : ∃ r, bareF (quoteF (kd == 0)) v.data.toList = r := ⟨_, rfl⟩
  rw [hr] at HBR
  have HRB := Lib.hid hr
  clear hq hr
  go_wp2_with fail
  refine (HQ.out w1).mono ?_
  rintro e w2 ⟨rfl, rfl⟩
  go_wp2_with fail
  refine (HBR.out w1).mono ?_
  rintro e w2 ⟨rfl, rfl⟩
  cases r
  rotate_left
  · go_wp2
    go_ret
    exact ⟨rfl, HB1.out⟩
  go_wp2_with fail
  refine (style_any F st kd HST.out HKD.out v (by omega) HVV.out HF1.out cs HCS.out HSAY.out HLE.out w1 (by rw [HB1.out.tape]; exact HFF.out) (Utf8Tabs_below HT.out HB1.out) (by obtain ⟨ev, h⟩ := HE.out; exact ⟨ev, keep_cell HB1.out h⟩)).mono ?_
  rintro e w3 ⟨⟨kd', v', rfl, hsty⟩, hb3⟩
  obtain ⟨k1, k2, k3, k4, k5, k6, k7, k8⟩ := styled_end HST.out HKD.out hsty HVV.out HF1.out HSAY.out HCS.out HRB.out (by omega) HLE.out
  have HB3 := Lib.hid (HB1.out.trans (hb3.mono HB1.out.size))
  have K1 := Lib.hid k1; have K2 := Lib.hid k2; have K3 := Lib.hid k3; have K4 := Lib.hid k4; have K5 := Lib.hid k5; have K6 := Lib.hid k6; have K7 := Lib.hid k7
  clear hsty hb3 k1 k2 k3 k4 k5 k6 k7
  have hv9 : v'.size ≤ 2147483647 := by omega
  go_wp2_with fail
  refine (unescape_any v' hv9 w3).mono ?_
  rintro e w4 ⟨⟨x2, st2, rfl, hy2, -⟩, hb4⟩
  obtain ⟨e1, e2⟩ := hy2 K2.out
  rw [K3.out] at e1 e2
  obtain rfl : st2 = 1 := e1
  have hx2 : x2 = bs (unL v.data.toList).2 := by rw [← e2 rfl, bs_list]
  subst hx2
  have HB4 := Lib.hid (HB3.out.trans (hb4.mono HB3.out.size))
  clear hy2 e2 hb4
  have hS := list_bs (unL v.data.toList).2
  have hSz : (bs (unL v.data.toList).2).size ≤ 400 := by rw [bs_size]; exact HLE.out
  generalize bs (unL v.data.toList).2 = S at *
  have HS := Lib.hid (show S.data.toList = cs.flatMap enc by rw [hS]; exact HSAY.out)
  have hbq : (S.toList == S.toList) = true := beq_self_eq_true _
  clear hS
  have hk9 : kd' = if (kd' == 0) then 0 else 1 := by rcases K1.out with rfl | rfl <;> rfl
  have HQ2 := Lib.hid (quote_any (kd' == 0) kd' hk9)
  have HBR2 := Lib.hid (fun (W : World) => bare_any v' hv9 (quoteF (kd' == 0)) _ rfl W)
  rw [K4.out] at HBR2
  clear hk9
  have l1 : ¬ kd' < 0 := by rcases K1.out with rfl | rfl <;> omega
  have l2 : ¬ 1 < kd' := by rcases K1.out with rfl | rfl <;> omega
  obtain ⟨q, hq⟩ : ∃ q : Int, ((quoteF (kd' == 0)).toNat : Int) = q := ⟨_, rfl⟩
  rw [hq] at HQ2 HBR2
  clear hq
  go_wp2_with fail
  refine (HQ2.out w4).mono ?_
  rintro e w5 ⟨rfl, rfl⟩
  go_wp2_with fail
  refine (HBR2.out w4).mono ?_
  rintro e w5 ⟨rfl, rfl⟩
  have HC39 := Lib.hid (fun (W : World) => count_any S (by omega) 39 39 rfl W)
  have HC34 := Lib.hid (fun (W : World) => count_any S (by omega) 34 34 rfl W)
  go_wp2_with fail
  refine (HC39.out w4).mono ?_
  rintro e w5 ⟨⟨n1, rfl, hn1⟩, rfl⟩
  rw [HS.out, mem_flat (by decide)] at hn1
  have N1 := Lib.hid (show 0 < n1 ↔ 39 ∈ cs from hn1)
  clear hn1
  go_wp2_with fail
  refine (HC34.out w4).mono ?_
  rintro e w5 ⟨⟨n2, rfl, hn2⟩, rfl⟩
  rw [HS.out, mem_flat (by decide)] at hn2
  have N2 := Lib.hid (show 0 < n2 ↔ 34 ∈ cs from hn2)
  clear hn2
  by_cases m1 : 0 < n1
  · have g1 : decide ((0 : Int) < (n1 : Int)) = true := decide_eq_true (by omega)
    by_cases m2 : 0 < n2
    · have g2 : decide ((0 : Int) < (n2 : Int)) = true := decide_eq_true (by omega)
      go_wp2
      go_ret
      exact ⟨rfl, HB4.out⟩
    · have g2 : decide ((0 : Int) < (n2 : Int)) = false := decide_eq_false (by omega)
      obtain ⟨rfl, hbh⟩ := K5.out (N1.out.1 m1) (fun h => m2 (N2.out.2 h))
      have HBH := Lib.hid (fun (W : World) => behind_any v' hv9 39 39 rfl W)
      rw [hbh] at HBH
      clear hbh
      go_wp2_with fail
      refine (HBH.out w4).mono ?_
      rintro e w5 ⟨rfl, rfl⟩
      go_wp2
      go_ret
      exact ⟨rfl, HB4.out⟩
  · have g1 : decide ((0 : Int) < (n1 : Int)) = false := decide_eq_false (by omega)
    by_cases m2 : 0 < n2
    · have g2 : decide ((0 : Int) < (n2 : Int)) = true := decide_eq_true (by omega)
      obtain ⟨rfl, hbh⟩ := K6.out (fun h => m1 (N1.out.2 h)) (N2.out.1 m2)
      have HBH := Lib.hid (fun (W : World) => behind_any v' hv9 34 34 rfl W)
      rw [hbh] at HBH
      clear hbh
      go_wp2_with fail
      refine (HBH.out w4).mono ?_
      rintro e w5 ⟨rfl, rfl⟩
      go_wp2
      go_ret
      exact ⟨rfl, HB4.out⟩
    · have g2 : decide ((0 : Int) < (n2 : Int)) = false := decide_eq_false (by omega)
      obtain rfl := K7.out (fun h => m1 (N1.out.2 h)) (fun h => m2 (N2.out.2 h))
      rcases HST.out with rfl | rfl
      · go_wp2
        go_ret
        exact ⟨rfl, HB4.out⟩
      · go_wp2
        go_ret
        exact ⟨rfl, HB4.out⟩
end Go.Proofs.YtceepfnjdkfjnaaFmt
