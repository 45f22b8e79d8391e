/-
  spec.Clean, ast.FodderHasCleanEndline, spec.Kept, spec.Good, zzFits1: what they tell of a list. Conditions: the lists' lengths.
-/
import Derived.Test.YthlnciihabhmaaaMaps
namespace Go.Proofs.Ythlnciihabhmaaa
open Go.ChangeShapes Go.WideShapes Go.ChangeAt Go.RowKit Go.Joins

theorem nil_or_snoc {α : Type} (l : List α) : l = [] ∨ ∃ q x, l = q ++ [x] := by
  rcases List.eq_nil_or_concat l with h | ⟨q, x, h⟩
  · exact .inl h
  · exact .inr ⟨q, x, by rw [h, List.concat_eq_append]⟩
theorem cleanB_snoc (qs : List Pc) (p : Pc) : cleanB (qs ++ [p]) = (p.k != 1) := by simp [cleanB]
theorem clean_pcs {w : World} {v : Value} {ps : List Pc} (h : Pcs pV w v ps) (hm : (ps.length : Int) ≤ 2147483647) :
    Calls Try.prog 12 #[v] w fun e w' => e = .returned (.bool (cleanB ps)) ∧ w = w' := by
  obtain ⟨a, cap, rfl⟩ := h.form
  rcases nil_or_snoc ps with rfl | ⟨qs, p, rfl⟩
  · go_enter Try.func12, Try.ntmps12
    go_wp2
    go_ret
    exact ⟨rfl, rfl⟩
  · obtain ⟨b, off, u, rfl, hlt, hu, c0, c1, c2, c3⟩ := h.atP (i := qs.length) (p := p) (by simp)
    rw [cleanB_snoc]
    clear h
    rw [List.length_append, List.length_singleton] at *
    by_cases hk : p.k = 1
    all_goals
      obtain ⟨r, hr⟩ : ∃ r, (p.k != 1) = r := ⟨_, rfl⟩
      have hk2 : (p.k == 1) = !r := by rw [← hr]; simp [bne]
      rw [hr]
      have hk3 : r = decide (p.k ≠ 1) := by rw [← hr]; by_cases h : p.k = 1 <;> simp [h]
      simp only [hk, ne_eq, not_true_eq_false, not_false_eq_true, decide_true, decide_false] at hk3
      subst hk3
      clear hk
      go_enter Try.func12, Try.ntmps12
      go_wp2
      go_ret
      exact ⟨rfl, rfl⟩
theorem cleanE_pcs {w : World} {v : Value} {ps : List Pc} (h : Pcs eV w v ps) (hm : (ps.length : Int) ≤ 2147483647) :
    Calls Try.prog 26 #[v] w fun e w' => e = .returned (.bool (cleanB ps)) ∧ w = w' := by
  obtain ⟨a, cap, rfl⟩ := h.form
  rcases nil_or_snoc ps with rfl | ⟨qs, p, rfl⟩
  · go_enter Try.func26, Try.ntmps26
    go_wp2
    go_ret
    exact ⟨rfl, rfl⟩
  · obtain ⟨b, off, u, rfl, hlt, hu, c0, c1, c2, c3⟩ := h.atE (i := qs.length) (p := p) (by simp)
    rw [cleanB_snoc]
    clear h
    rw [List.length_append, List.length_singleton] at *
    by_cases hk : p.k = 1
    all_goals
      obtain ⟨r, hr⟩ : ∃ r, (p.k != 1) = r := ⟨_, rfl⟩
      have hk2 : (p.k == 1) = !r := by rw [← hr]; simp [bne]
      rw [hr]
      have hk3 : r = decide (p.k ≠ 1) := by rw [← hr]; by_cases h : p.k = 1 <;> simp [h]
      simp only [hk, ne_eq, not_true_eq_false, not_false_eq_true, decide_true, decide_false] at hk3
      subst hk3
      clear hk
      go_enter Try.func26, Try.ntmps26
      go_wp2
      go_ret
      exact ⟨rfl, rfl⟩

/-- The first pieces of a list. -/
theorem Cells.take {f : Pc → Value → List Value} {X : Nat → Prop} {w : World} (hf4 : ∀ p u, (f p u).length = 4) : ∀ {ps : List Pc} {xs : List Value} (j : Nat), Cells f X w ps xs → Cells f X w (ps.take j) (xs.take (j * 4))
  | [], _, j, h => by
    have e : _ = [] := h
    subst e
    simp [Cells]
  | p :: ps, xs, 0, h => by simp [Cells]
  | p :: ps, xs, j + 1, ⟨u, ys, hc, hf, hr, e⟩ => ⟨u, _, hc, hf, hr.take hf4 j, by
    subst e
    rw [List.take_append, hf4, List.take_of_length_le (by rw [hf4]; omega), show (j + 1) * 4 - 4 = j * 4 by omega]⟩
theorem Pcs.take {f : Pc → Value → List Value} (hf4 : ∀ p u, (f p u).length = 4) {w : World} {a : Option Addr} {n cap cap' : Nat} {ps : List Pc} (h : Pcs f w (.slice a n cap) ps) {j : Nat} (hj : j ≤ ps.length) (hcap : j ≤ cap') : Pcs f w (.slice a j cap') (ps.take j) := by
  obtain ⟨a', c', xs, e, hle, hc, h1⟩ := h
  injection e with e1 e2 e3
  subst e1
  refine ⟨a, cap', xs.take (j * 4), by rw [List.length_take, Nat.min_eq_left hj], by rw [List.length_take, Nat.min_eq_left hj]; exact hcap, hc.take hf4 j, fun h0 => ?_⟩
  rw [List.length_take, Nat.min_eq_left hj] at h0
  obtain ⟨b, off, ea, hlt, hcell⟩ := h1 (by omega)
  exact ⟨b, off, ea, hlt, fun i c hi => hcell i c (by
    rw [List.getElem?_take] at hi
    split at hi
    · exact hi
    · cases hi)⟩

/-- So far no end of a line stands where it must not. -/
def KeptTo (ps : List Pc) (j : Nat) : Prop := ∀ i p, i < j → ps[i]? = some p → p.k = 0 → cleanB (ps.take i) = false
theorem KeptTo.zero (ps : List Pc) : KeptTo ps 0 := fun i p h => absurd h (by omega)
theorem KeptTo.succ {ps : List Pc} {j : Nat} {p : Pc} (h : KeptTo ps j) (hp : ps[j]? = some p) (hk : p.k = 0 → cleanB (ps.take j) = false) : KeptTo ps (j + 1) := fun i q hi hq h0 => by
  by_cases e : i = j
  · subst e
    rw [hp] at hq
    obtain rfl := Option.some.inj hq
    exact hk h0
  · exact h i q (by omega) hq h0
theorem KeptTo.all {ps : List Pc} (h : KeptTo ps ps.length) : KeptP ps := fun i p hp => h i p (List.getElem?_eq_some_iff.1 hp).1 hp
theorem not_kept {ps : List Pc} {j : Nat} {p : Pc} (hp : ps[j]? = some p) (hk : p.k = 0) (hc : cleanB (ps.take j) = true) : ¬ KeptP ps := fun h => by
  rw [h j p hp hk] at hc
  cases hc

theorem kept_pcs {w : World} {v : Value} {ps : List Pc} (h : Pcs pV w v ps) (hm : (ps.length : Int) ≤ 2147483647) :
    Calls Try.prog 25 #[v] w fun e w' => Tells (KeptP ps) e ∧ Below w.heap.size w w' := by
  obtain ⟨a, cap, rfl⟩ := h.form
  have H := Lib.hid h; clear h
  have hcap : (ps.length : Int) ≤ cap := by have := H.out.cap; omega
  go_enter Try.func25, Try.ntmps25
  go_wp2
  go_loopw [7] (fun i wr => ∃ j : Nat, j ≤ ps.length ∧ i = .int .i64 j ∧ KeptTo ps j ∧ Below w.heap.size w wr) (fun i _ => ps.length - (intOf i).toNat)
  case atStart => exact ⟨0, Nat.zero_le _, rfl, KeptTo.zero _, Below.refl _ _⟩
  case round =>
    obtain ⟨j, hj, rfl, hK, hB⟩ := hrel
    have HK := Lib.hid hK; clear hK
    by_cases hjl : j < ps.length
    · obtain ⟨p, hp⟩ : ∃ p, ps[j]? = some p := ⟨_, List.getElem?_eq_getElem hjl⟩
      have HW := H.out.below hB
      obtain ⟨b, off, u, rfl, hlt, hu, c0, c1, c2, c3⟩ := HW.atP hp
      have HP := Lib.hid hp; clear hp
      obtain ⟨ua, ucap, rfl⟩ := hu.form
      have HW2 := (HW.take pV4 (j := j) (cap' := cap) hj (by omega)).below (below_alloc1 wr (.cells #[.int .i64 p.k, .int .i64 p.bl, .int .i64 p.ind, .slice ua p.ss.length ucap] 31))
      have HT := Lib.hid HW2; clear HW2 HW
      have hB2 := hB.trans ((below_alloc1 wr (.cells #[.int .i64 p.k, .int .i64 p.bl, .int .i64 p.ind, .slice ua p.ss.length ucap] 31)).mono hB.size)
      by_cases hk : p.k = 0
      · have hk2 : (p.k == 0) = true := by simp [hk]
        have HKK := Lib.hid hk; clear hk
        go_wp2_with fail
        go_at_call 12
        refine (clean_pcs HT.out (by rw [List.length_take]; omega)).mono ?_
        rintro e w' ⟨rfl, rfl⟩
        obtain ⟨r, hr⟩ : ∃ r, cleanB (ps.take j) = r := ⟨_, rfl⟩
        have HR := Lib.hid hr
        rw [hr]
        clear hr
        cases r
        · go_wp2
          go_roundw
          case rel => exact ⟨j + 1, by omega, by go_num, HK.out.succ HP.out (fun _ => HR.out), hB2⟩
          case measure => simp [intOf]; omega
        · go_wp2
          go_ret
          exact ⟨tells_no (not_kept HP.out HKK.out HR.out), hB2⟩
      · have hk2 : (p.k == 0) = false := by simp [hk]
        have HKK := Lib.hid hk; clear hk
        go_wp2
        go_roundw
        case rel => exact ⟨j + 1, by omega, by go_num, HK.out.succ HP.out (fun h => absurd h HKK.out), hB2⟩
        case measure => simp [intOf]; omega
    · have hje : j = ps.length := by omega
      subst hje
      go_wp2
      go_ret
      exact ⟨tells_yes HK.out.all, hB⟩

/-- So far all pieces are sound. -/
def SoundTo (ps : List Pc) (j : Nat) : Prop := ∀ i p, i < j → ps[i]? = some p → p.Sound
theorem SoundTo.succ {ps : List Pc} {j : Nat} {p : Pc} (h : SoundTo ps j) (hp : ps[j]? = some p) (hk : p.Sound) : SoundTo ps (j + 1) := fun i q hi hq => by
  by_cases e : i = j
  · subst e
    rw [hp] at hq
    obtain rfl := Option.some.inj hq
    exact hk
  · exact h i q (by omega) hq
theorem SoundTo.all {ps : List Pc} (h : SoundTo ps ps.length) : ∀ p ∈ ps, p.Sound := fun p hp => by
  obtain ⟨i, hi⟩ := List.getElem?_of_mem hp
  exact h i p (List.getElem?_eq_some_iff.1 hi).1 hi

theorem good_pcs {w : World} {v : Value} {ps : List Pc} (h : Pcs pV w v ps) (hm : (ps.length : Int) ≤ 2147483647) (hss : ∀ p ∈ ps, (p.ss.length : Int) ≤ 9223372036854775807) :
    Calls Try.prog 10 #[v] w fun e w' => IfTells (GoodP ps) e ∧ Below w.heap.size w w' := by
  obtain ⟨a, cap, rfl⟩ := h.form
  have H := Lib.hid h; clear h
  have HS := Lib.hid hss; clear hss
  go_enter Try.func10, Try.ntmps10
  go_wp2
  go_loopw [7] (fun i wr => ∃ j : Nat, j ≤ ps.length ∧ i = .int .i64 j ∧ SoundTo ps j ∧ Below w.heap.size w wr) (fun i _ => ps.length - (intOf i).toNat)
  case atStart => exact ⟨0, Nat.zero_le _, rfl, fun i p h => absurd h (by omega), Below.refl _ _⟩
  case round =>
    obtain ⟨j, hj, rfl, hK, hB⟩ := hrel
    have HK := Lib.hid hK; clear hK
    by_cases hjl : j < ps.length
    · obtain ⟨p, hp⟩ : ∃ p, ps[j]? = some p := ⟨_, List.getElem?_eq_getElem hjl⟩
      obtain ⟨b, off, u, rfl, hlt, hu, c0, c1, c2, c3⟩ := (H.out.below hB).atP hp
      have hs := HS.out p (List.mem_of_getElem? hp)
      have HP := Lib.hid hp; clear hp
      obtain ⟨ua, ucap, rfl⟩ := hu.form
      have hU := hu.below (below_alloc1 wr (.cells #[.int .i64 p.k, .int .i64 p.bl, .int .i64 p.ind, .slice ua p.ss.length ucap] 31))
      have hB2 := hB.trans ((below_alloc1 wr (.cells #[.int .i64 p.k, .int .i64 p.bl, .int .i64 p.ind, .slice ua p.ss.length ucap] 31)).mono hB.size)
      go_wp2_with fail
      go_at_call 15
      refine (sound_comm p.k p.bl p.ind hU hs).mono ?_
      rintro e w2 ⟨⟨r, rfl, hr⟩, hb2⟩
      have hB3 := hB2.trans (hb2.mono hB2.size)
      cases r
      · clear hr
        go_wp2
        go_ret
        exact ⟨ifTells_no _, hB3⟩
      · have HR := Lib.hid (hr rfl); clear hr
        go_wp2
        go_roundw
        case rel => exact ⟨j + 1, by omega, by go_num, HK.out.succ HP.out HR.out, hB3⟩
        case measure => simp [intOf]; omega
    · have hje : j = ps.length := by omega
      subst hje
      by_cases h24 : (ps.length : Int) ≤ 24
      · go_wp2_with fail
        go_at_call 25
        refine (kept_pcs (H.out.below hB) hm).mono ?_
        rintro e w2 ⟨⟨r, rfl, hr⟩, hb2⟩
        have HR := Lib.hid hr; clear hr
        have hB3 := hB.trans (hb2.mono hB.size)
        go_wp2
        go_ret
        exact ⟨ifTells_of fun h => ⟨HK.out.all, by omega, HR.out.1 h⟩, hB3⟩
      · go_wp2
        go_ret
        exact ⟨ifTells_no _, hB⟩

theorem fits1_pcs {w : World} {v : Value} {ps : List Pc} (h : Pcs pV w v ps) (hm : (ps.length : Int) ≤ 9223372036854775807) (hss : ∀ p ∈ ps, (p.ss.length : Int) ≤ 9223372036854775807) :
    Calls Try.prog 8 #[v] w fun e w' => IfTells ((ps.length : Int) ≤ 2147483647) e ∧ Below w.heap.size w w' := by
  obtain ⟨a, cap, rfl⟩ := h.form
  have H := Lib.hid h; clear h
  have HS := Lib.hid hss; clear hss
  by_cases h1 : (ps.length : Int) > 2147483647
  · go_enter Try.func8, Try.ntmps8
    go_wp2
    go_ret
    exact ⟨ifTells_no _, Below.refl _ _⟩
  go_enter Try.func8, Try.ntmps8
  go_wp2
  go_loopw [10] (fun i wr => ∃ j : Nat, j ≤ ps.length ∧ i = .int .i64 j ∧ Below w.heap.size w wr) (fun i _ => ps.length - (intOf i).toNat)
  case atStart => exact ⟨0, Nat.zero_le _, rfl, Below.refl _ _⟩
  case round =>
    obtain ⟨j, hj, rfl, hB⟩ := hrel
    by_cases hjl : j < ps.length
    · obtain ⟨p, hp⟩ : ∃ p, ps[j]? = some p := ⟨_, List.getElem?_eq_getElem hjl⟩
      obtain ⟨b, off, u, rfl, hlt, hu, c0, c1, c2, c3⟩ := (H.out.below hB).atP hp
      have hs := HS.out p (List.mem_of_getElem? hp)
      clear hp
      obtain ⟨ua, ucap, rfl⟩ := hu.form
      have hU := hu.below (below_alloc1 wr (.cells #[.int .i64 p.k, .int .i64 p.bl, .int .i64 p.ind, .slice ua p.ss.length ucap] 29))
      have hB2 := hB.trans ((below_alloc1 wr (.cells #[.int .i64 p.k, .int .i64 p.bl, .int .i64 p.ind, .slice ua p.ss.length ucap] 29)).mono hB.size)
      go_wp2_with fail
      go_at_call 13
      refine (fits2_comm p.k p.bl p.ind hU hs).mono ?_
      rintro e w2 ⟨⟨r, rfl⟩, hb2⟩
      have hB3 := hB2.trans (hb2.mono hB2.size)
      cases r
      · go_wp2
        go_ret
        exact ⟨ifTells_no _, hB3⟩
      · go_wp2
        go_roundw
        case rel => exact ⟨j + 1, by omega, by go_num, hB3⟩
        case measure => simp [intOf]; omega
    · have hje : j = ps.length := by omega
      subst hje
      go_wp2
      go_ret
      exact ⟨ifTells_yes (by omega), hB⟩
end Go.Proofs.Ythlnciihabhmaaa
