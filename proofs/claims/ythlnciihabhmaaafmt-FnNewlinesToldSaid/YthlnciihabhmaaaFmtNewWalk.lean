/-
  FnNewlines' walk: a list stands for as many newlines as its pieces. Conditions: the argument reads as a list of pieces.
-/
import Derived.Test.YthlnciihabhmaaaFmtGood
namespace Go.Proofs.YthlnciihabhmaaaFmt
open Go.ChangeShapes Go.WideShapes Go.ChangeAt Go.RowKit Go.Joins

/-- How many newlines some pieces stand for. -/
def pnls (ps : List Pc) : Int := (ps.map fun p => pnl p.k p.bl p.ss.length).sum
theorem pnls_nil : pnls [] = 0 := rfl
theorem pnls_snoc (ps : List Pc) (p : Pc) : pnls (ps ++ [p]) = pnls ps + pnl p.k p.bl p.ss.length := by simp [pnls]
theorem pnl_bd {p : Pc} (hb : 0 ≤ p.bl ∧ p.bl ≤ 1000) (hs : p.ss.length ≤ 12) : 0 ≤ pnl p.k p.bl p.ss.length ∧ pnl p.k p.bl p.ss.length ≤ 2000 := by
  unfold pnl
  split
  · omega
  · split <;> omega
theorem pnls_bd {ps : List Pc} (hb : ∀ p ∈ ps, 0 ≤ p.bl ∧ p.bl ≤ 1000) (hs : Short 12 ps) : 0 ≤ pnls ps ∧ pnls ps ≤ ps.length * 2000 := by
  induction ps with
  | nil => simp [pnls]
  | cons p ps ih =>
    have h1 := pnl_bd (hb p (by simp)) (hs p (by simp))
    have h2 := ih (fun q hq => hb q (by simp [hq])) (fun q hq => hs q (by simp [hq]))
    have e : pnls (p :: ps) = pnl p.k p.bl p.ss.length + pnls ps := by simp [pnls]
    rw [e, List.length_cons]
    omega
theorem pnls_take {ps : List Pc} {j : Nat} (hb : ∀ p ∈ ps, 0 ≤ p.bl ∧ p.bl ≤ 1000) (hs : Short 12 ps) (hj : j ≤ ps.length) (hl : (ps.length : Int) ≤ 1000) : 0 ≤ pnls (ps.take j) ∧ pnls (ps.take j) ≤ 2000000 := by
  have h := pnls_bd (ps := ps.take j) (fun p hp => hb p (List.mem_of_mem_take hp)) (fun p hp => hs p (List.mem_of_mem_take hp))
  rw [List.length_take] at h
  have : ((min j ps.length : Nat) : Int) * 2000 ≤ 1000 * 2000 := by omega
  omega

theorem countNl {w : World} {v : Value} {ps : List Pc} (h : Pcs eV w v ps) (hm : (ps.length : Int) ≤ 1000) (hk : ∀ p ∈ ps, p.k = 0 ∨ p.k = 1 ∨ p.k = 2) (hb : ∀ p ∈ ps, 0 ≤ p.bl ∧ p.bl ≤ 1000) (hs : Short 12 ps) :
    Calls Tryf.prog 40 #[v] w fun e w' => e = .returned (.int .i64 (pnls ps)) ∧ Below w.heap.size w w' := by
  obtain ⟨a, cap, rfl⟩ := h.form
  have H := Lib.hid h; clear h
  have HK := Lib.hid hk; clear hk
  have HB := Lib.hid hb; clear hb
  have HS := Lib.hid hs; clear hs
  go_enter Tryf.func40, Tryf.ntmps40
  go_wp2
  go_loopw [3, 8] (fun s i wr => ∃ j : Nat, j ≤ ps.length ∧ i = .int .i64 j ∧ s = .int .i64 (pnls (ps.take j)) ∧ Below w.heap.size w wr) (fun _ i _ => ps.length - (intOf i).toNat)
  case atStart => exact ⟨0, Nat.zero_le _, rfl, rfl, Below.refl _ _⟩
  case round =>
    obtain ⟨j, hj, rfl, rfl, hB⟩ := hrel
    by_cases hjl : j < ps.length
    · obtain ⟨p, hp⟩ : ∃ p, ps[j]? = some p := ⟨_, List.getElem?_eq_getElem hjl⟩
      obtain ⟨b, off, u, rfl, hlt, hu, c0, c1, c2, c3⟩ := (H.out.below hB).atE hp
      have hmem := List.mem_of_getElem? hp
      have hbd := pnls_take HB.out HS.out hj hm
      have hpb := pnl_bd (HB.out p hmem) (HS.out p hmem)
      have hss : p.ss.length ≤ 1000000 := Nat.le_trans (HS.out p hmem) (by omega)
      have hkp := Lib.hid (HK.out p hmem)
      have hbp := Lib.hid (HB.out p hmem)
      have HP := Lib.hid hp; clear hp hmem
      obtain ⟨ua, ucap, rfl⟩ := hu.form
      have hB2 := hB.trans ((below_alloc1 wr (.cells #[.slice ua p.ss.length ucap, .int .i64 p.k, .int .i64 p.bl, .int .i64 p.ind] 56)).mono hB.size)
      go_wp2_with fail
      go_at_call 36
      refine (astPN_any p.k p.bl p.ind ua p.ss.length ucap _ hkp.out hbp.out hss).mono ?_
      rintro e w2 ⟨rfl, hb2⟩
      have hB3 := hB2.trans (hb2.mono hB2.size)
      go_wp2
      go_roundw
      case rel => exact ⟨j + 1, by omega, by go_num, by rw [take_snoc HP.out, pnls_snoc], hB3⟩
      case measure => simp [intOf]; omega
    · have hje : j = ps.length := by omega
      subst hje
      go_wp2
      go_ret
      exact ⟨by show Ending.returned (.int .i64 (pnls (ps.take ps.length))) = _; rw [List.take_length], hB⟩
theorem implNl {w : World} {v : Value} {ps : List Pc} (h : Pcs pV w v ps) (hm : (ps.length : Int) ≤ 1000) (hk : ∀ p ∈ ps, p.k = 0 ∨ p.k = 1 ∨ p.k = 2) (hb : ∀ p ∈ ps, 0 ≤ p.bl ∧ p.bl ≤ 1000) (hs : Short 12 ps) :
    Calls Tryf.prog 23 #[v] w fun e w' => e = .returned (.int .i64 (pnls ps)) ∧ Below w.heap.size w w' := by
  obtain ⟨a, cap, rfl⟩ := h.form
  have H := Lib.hid h; clear h
  have HK := Lib.hid hk; clear hk
  have HB := Lib.hid hb; clear hb
  have HN : ∀ q ∈ ps, q.ss.length ≤ 1000000 := hs.le (by omega)
  have HN' := Lib.hid HN; clear HN
  have HS := Lib.hid hs; clear hs
  go_enter Tryf.func23, Tryf.ntmps23
  go_wp2_with fail
  go_at_call 41
  refine (fodder_pcs H.out (by omega) HN'.out).mono ?_
  rintro e w2 ⟨⟨v1, rfl, ho⟩, hb2⟩
  obtain ⟨a1, cap1, rfl⟩ := ho.pcs.form
  have HO := Lib.hid ho.pcs; clear ho
  go_wp2_with fail
  go_at_call 40
  refine (countNl HO.out hm HK.out HB.out HS.out).mono ?_
  rintro e w3 ⟨rfl, hb3⟩
  go_wp2
  go_ret
  exact ⟨rfl, hb2.trans (hb3.mono hb2.size)⟩

theorem new_walk {W : World} {v0 : Value} {l0 : List Pc} (h0 : Pcs pV W v0 l0) (hl0 : (l0.length : Int) ≤ 9223372036854775807) (hs0 : ∀ p ∈ l0, (p.ss.length : Int) ≤ 9223372036854775807) :
    Calls Tryf.prog 5 #[v0] W fun e W' => e = .returned (.bool true) ∧ Below W.heap.size W W' := by
  obtain ⟨a0, cap0, rfl⟩ := h0.form
  have H0 := Lib.hid h0
  have S0 := Lib.hid hs0
  clear h0 hs0
  go_enter Tryf.func5, Tryf.ntmps5
  go_wp2_with fail
  go_at_call 20
  refine (fits1_pcs H0.out hl0 S0.out).mono ?_
  rintro e w1 ⟨⟨r, rfl, hr⟩, hB1⟩
  cases r
  · clear hr
    go_wp2
    go_ret
    exact ⟨rfl, hB1⟩
  have hm0 := hr rfl
  clear hr
  go_wp2_with fail
  go_at_call 21
  refine (lawsPieces_pcs (H0.out.below hB1) hm0).mono ?_
  rintro e w3 ⟨⟨x, rfl, hx⟩, hb3⟩
  obtain ⟨ax, capx, rfl⟩ := hx.pcs.form
  have X := Lib.hid hx.pcs; clear hx
  have hB3 := hB1.trans (hb3.mono hB1.size)
  go_wp2_with fail
  go_at_call 22
  refine (good_pcs X.out hm0 S0.out).mono ?_
  rintro e w5 ⟨⟨r, rfl, hr⟩, hb5⟩
  have hB5 := hB3.trans (hb5.mono hB3.size)
  cases r
  · clear hr
    go_wp2
    go_ret
    exact ⟨rfl, hB5⟩
  have G0 := Lib.hid (good_facts (hr rfl))
  have GB : ∀ p ∈ l0, 0 ≤ p.bl ∧ p.bl ≤ 1000 := fun p hp => ((hr rfl).1 p hp).1
  have HB := Lib.hid GB
  clear hr GB
  have X5 := Lib.hid (X.out.below hb5)
  clear hb3 hb5
  have n0 : (l0.length : Int) ≤ 1000 := by have := G0.out.len; omega
  go_wp2
  go_loopw [4, 5, 21] (fun s pl i wr => ∃ j : Nat, j ≤ l0.length ∧ i = .int .i64 j ∧ s = .int .i64 (pnls (l0.take j)) ∧ (∃ b, pl = .bool b) ∧ Below w5.heap.size w5 wr) (fun _ _ i _ => l0.length - (intOf i).toNat)
  case atStart => exact ⟨0, Nat.zero_le _, rfl, rfl, ⟨true, rfl⟩, Below.refl _ _⟩
  case round =>
    obtain ⟨j, hj, rfl, rfl, ⟨pl, rfl⟩, hB⟩ := hrel
    by_cases hjl : j < l0.length
    · obtain ⟨p, hp⟩ : ∃ p, l0[j]? = some p := ⟨_, List.getElem?_eq_getElem hjl⟩
      obtain ⟨b, off, u, rfl, hlt, hu, c0, c1, c2, c3⟩ := (H0.out.below (hB5.trans (hB.mono hB5.size))).atP hp
      obtain ⟨ua, ucap, rfl⟩ := hu.form
      have hbx := below_alloc1 wr (.cells #[.int .i64 p.k, .int .i64 p.bl, .int .i64 p.ind, .slice ua p.ss.length ucap] 24)
      have hmem := List.mem_of_getElem? hp
      have hbd := pnls_take HB.out G0.out.short hj n0
      have hpb := pnl_bd (HB.out p hmem) (G0.out.short p hmem)
      have hss : p.ss.length ≤ 1000000 := Nat.le_trans (G0.out.short p hmem) (by omega)
      have hkp := Lib.hid (G0.out.kind p hmem)
      have hbp := Lib.hid (HB.out p hmem)
      have HP := Lib.hid hp
      have HU := Lib.hid (hu.below hbx); clear hu
      clear hp hmem
      have hB2 := hB.trans (hbx.mono hB.size)
      go_wp2_with fail
      go_at_call 15
      refine (implPN_comm p.k p.bl p.ind HU.out hss hkp.out hbp.out).mono ?_
      rintro e w2 ⟨rfl, hb2⟩
      have hB3' := hB2.trans (hb2.mono hB2.size)
      obtain ⟨b', off', u', e0, hlt', hu', d0, d1, d2, d3⟩ := (X5.out.below hB3').atP HP.out
      subst e0
      clear c0 c1 c2 c3 hu' d2 d3
      cases hk : (p.k == 0)
      · go_wp2
        go_roundw
        case rel => exact ⟨j + 1, by omega, by go_num, by rw [take_snoc HP.out, pnls_snoc], ⟨_, rfl⟩, hB3'⟩
        case measure => simp [intOf]; omega
      · cases pl
        · go_wp2
          go_roundw
          case rel => exact ⟨j + 1, by omega, by go_num, by rw [take_snoc HP.out, pnls_snoc], ⟨_, rfl⟩, hB3'⟩
          case measure => simp [intOf]; omega
        · go_wp2
          go_roundw
          case rel => exact ⟨j + 1, by omega, by go_num, by rw [take_snoc HP.out, pnls_snoc], ⟨_, rfl⟩, hB3'⟩
          case measure => simp [intOf]; omega
    · have hje : j = l0.length := by omega
      subst hje
      rw [List.take_length]
      have hbd := pnls_take (j := l0.length) HB.out G0.out.short (Nat.le_refl _) n0
      rw [List.take_length] at hbd
      obtain ⟨wo, rfl⟩ : ∃ wo : World, wo = wr := ⟨_, rfl⟩
      have XO := Lib.hid (X5.out.below hB)
      have HBO := Lib.hid hB
      clear hB
      go_wp2
      go_loopw [8, 48] (fun s i wr => ∃ j : Nat, j ≤ l0.length ∧ i = .int .i64 j ∧ s = .int .i64 (pnls (l0.take j)) ∧ Below wo.heap.size wo wr) (fun _ i _ => l0.length - (intOf i).toNat)
      case atStart => exact ⟨0, Nat.zero_le _, rfl, rfl, Below.refl _ _⟩
      case round =>
        obtain ⟨j, hj, rfl, rfl, hB⟩ := hrel
        by_cases hjl : j < l0.length
        · obtain ⟨p, hp⟩ : ∃ p, l0[j]? = some p := ⟨_, List.getElem?_eq_getElem hjl⟩
          obtain ⟨b, off, u, e0, hlt, hu, c0, c1, c2, c3⟩ := (XO.out.below hB).atP hp
          subst e0
          obtain ⟨ua, ucap, rfl⟩ := hu.form
          have hbx := below_alloc1 wr (.cells #[.int .i64 p.k, .int .i64 p.bl, .int .i64 p.ind, .slice ua p.ss.length ucap] 26)
          have hmem := List.mem_of_getElem? hp
          have hbe := pnls_take HB.out G0.out.short hj n0
          have hpb := pnl_bd (HB.out p hmem) (G0.out.short p hmem)
          have hss : p.ss.length ≤ 1000000 := Nat.le_trans (G0.out.short p hmem) (by omega)
          have hkp := Lib.hid (G0.out.kind p hmem)
          have hbp := Lib.hid (HB.out p hmem)
          have HP := Lib.hid hp
          clear hp hmem hu
          have hB2 := hB.trans (hbx.mono hB.size)
          go_wp2_with fail
          go_at_call 16
          refine (specPN_any p.k p.bl p.ind ua p.ss.length ucap _ hkp.out hbp.out hss).mono ?_
          rintro e w2 ⟨rfl, hb2⟩
          have hB3' := hB2.trans (hb2.mono hB2.size)
          go_wp2
          go_roundw
          case rel => exact ⟨j + 1, by omega, by go_num, by rw [take_snoc HP.out, pnls_snoc], hB3'⟩
          case measure => simp [intOf]; omega
        · have hje : j = l0.length := by omega
          subst hje
          rw [List.take_length]
          have hB9 := hB5.trans ((HBO.out.trans (hB.mono HBO.out.size)).mono hB5.size)
          go_wp2_with fail
          go_at_call 23
          refine (implNl (H0.out.below hB9) n0 G0.out.kind HB.out G0.out.short).mono ?_
          rintro e w10 ⟨rfl, hb10⟩
          have hB10 := hB9.trans (hb10.mono hB9.size)
          cases pl
          all_goals
            go_wp2
            go_ret
            exact ⟨rfl, hB10⟩
end Go.Proofs.YthlnciihabhmaaaFmt
