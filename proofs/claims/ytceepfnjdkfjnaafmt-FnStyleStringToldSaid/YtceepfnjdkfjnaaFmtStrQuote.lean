/-
  spec.Bare, spec.Behind, spec.Count, laws.quote. Conditions: a text's length.
-/
import Derived.Test.YtceepfnjdkfjnaaFmtStrUnesc
namespace Go.Proofs.YtceepfnjdkfjnaaFmt
open Go.ChangeShapes Go.WideShapes Go.ChangeAt Go.RowKit Go.Joins

theorem drop_end {s : ByteArray} {j : Nat} (h : ¬ j < s.size) : s.data.toList.drop j = [] := List.drop_eq_nil_of_le (by rw [← Lib.size_eq]; omega)
theorem bare_here {q b : UInt8} (t : List UInt8) (h1 : b ≠ 92) (h2 : b = q) : bareF q (b :: t) = true := by
  subst h2
  cases t with
  | nil => simp [bareF, h1]
  | cons c t => simp only [bareF, if_neg h1, if_pos]
theorem bare_last (q : UInt8) : bareF q [92] = false := rfl
theorem quote_any (single : Bool) (k : Int) (hk : k = if single then 0 else 1) (w : World) : Calls Tryf.prog 7 #[.int .i64 k] w fun e w' => e = .returned (.int .u8 ((quoteF single).toNat : Int)) ∧ w = w' := by
  cases single
  · obtain rfl : k = 1 := hk
    go_enter Tryf.func7, Tryf.ntmps7
    go_wp2
    go_ret
    exact ⟨rfl, rfl⟩
  · obtain rfl : k = 0 := hk
    go_enter Tryf.func7, Tryf.ntmps7
    go_wp2
    go_ret
    exact ⟨rfl, rfl⟩
set_option maxHeartbeats 1600000 in
theorem bare_any (s : ByteArray) (hs : s.size ≤ 2147483647) (q : UInt8) (m : Int) (hm : m = (q.toNat : Int)) (w : World) : Calls Tryf.prog 6 #[.string s, .int .u8 m] w fun e w' => e = .returned (.bool (bareF q s.data.toList)) ∧ w = w' := by
  have HM := Lib.hid hm; clear hm
  go_enter Tryf.func6, Tryf.ntmps6
  go_wp2
  go_loopw [5] (fun i wr => ∃ j : Nat, j ≤ s.size + 1 ∧ i = .int .i64 j ∧ bareF q s.data.toList = bareF q (s.data.toList.drop j) ∧ w = wr) (fun i _ => s.size + 1 - (intOf i).toNat)
  case atStart => exact ⟨0, by omega, rfl, by simp, rfl⟩
  case round =>
    obtain ⟨j, hj, rfl, hb, rfl⟩ := hrel
    have HB := Lib.hid hb; clear hb
    by_cases hjl : j < s.size
    · obtain ⟨b, hb⟩ : ∃ b, (s[j]'hjl) = b := ⟨_, rfl⟩
      have HD := Lib.hid (drop_at hjl)
      rw [hb] at HD
      by_cases h92 : b = 92
      · have d : (((s[j]'hjl).toNat : Int) == 92) = true := by rw [hb, h92]; rfl
        have HN := Lib.hid (show bareF q s.data.toList = bareF q (s.data.toList.drop (j + 2)) by
          rw [HB.out, HD.out, h92]
          by_cases h2 : j + 1 < s.size
          · rw [drop_at h2, bare_esc]
          · rw [drop_end h2, drop_end (by omega)]; rfl)
        clear hb h92
        go_wp2
        go_roundw
        case rel => exact ⟨j + 2, by omega, by go_num, HN.out, trivial⟩
        case measure => simp [intOf]; omega
      · have d : (((s[j]'hjl).toNat : Int) == 92) = false := by rw [hb]; exact ne_num h92
        by_cases hq : b = q
        · have d2 : (((s[j]'hjl).toNat : Int) == m) = true := by rw [hb, hq, HM.out]; exact beq_self_eq_true _
          have HF := Lib.hid (show bareF q s.data.toList = true by rw [HB.out, HD.out]; exact bare_here _ h92 hq)
          clear hb h92 hq
          go_wp2
          go_ret
          exact ⟨by rw [HF.out]; rfl, rfl⟩
        · have d2 : (((s[j]'hjl).toNat : Int) == m) = false := by
            rw [hb, HM.out, beq_eq_false_iff_ne]
            intro e
            exact hq (UInt8.toNat_inj.1 (by omega))
          have HN := Lib.hid (show bareF q s.data.toList = bareF q (s.data.toList.drop (j + 1)) by rw [HB.out, HD.out, bare_plain _ h92 hq])
          clear hb h92 hq
          go_wp2
          go_roundw
          case rel => exact ⟨j + 1, by omega, by go_num, HN.out, trivial⟩
          case measure => simp [intOf]; omega
    · have HF := Lib.hid (show bareF q s.data.toList = false by rw [HB.out, drop_end hjl]; rfl)
      go_wp2
      go_ret
      exact ⟨by rw [HF.out]; rfl, rfl⟩
set_option maxHeartbeats 1600000 in
theorem behind_any (s : ByteArray) (hs : s.size ≤ 2147483647) (q : UInt8) (m : Int) (hm : m = (q.toNat : Int)) (w : World) : Calls Tryf.prog 10 #[.string s, .int .u8 m] w fun e w' => e = .returned (.bool (behindF q s.data.toList)) ∧ w = w' := by
  have HM := Lib.hid hm; clear hm
  go_enter Tryf.func10, Tryf.ntmps10
  go_wp2
  go_loopw [5] (fun i wr => ∃ j : Nat, j ≤ s.size + 1 ∧ i = .int .i64 j ∧ behindF q s.data.toList = behindF q (s.data.toList.drop j) ∧ w = wr) (fun i _ => s.size + 1 - (intOf i).toNat)
  case atStart => exact ⟨0, by omega, rfl, by simp, rfl⟩
  case round =>
    obtain ⟨j, hj, rfl, hb, rfl⟩ := hrel
    have HB := Lib.hid hb; clear hb
    by_cases hj1 : j + 1 < s.size
    · have hjl : j < s.size := by omega
      obtain ⟨b, hb⟩ : ∃ b, (s[j]'hjl) = b := ⟨_, rfl⟩
      obtain ⟨c, hc⟩ : ∃ c, (s[j + 1]'hj1) = c := ⟨_, rfl⟩
      have HD := Lib.hid (show s.data.toList.drop j = b :: s.data.toList.drop (j + 1) by rw [drop_at hjl, hb])
      have HD2 := Lib.hid (show s.data.toList.drop (j + 1) = c :: s.data.toList.drop (j + 2) by rw [drop_at hj1, hc])
      by_cases h92 : b = 92
      · have d : (((s[j]'hjl).toNat : Int) == 92) = true := by rw [hb, h92]; rfl
        by_cases hq : c = q
        · have d2 : (((s[j + 1]'hj1).toNat : Int) == m) = true := by rw [hc, hq, HM.out]; exact beq_self_eq_true _
          have HF := Lib.hid (show behindF q s.data.toList = true by rw [HB.out, HD.out, HD2.out, h92, hq]; simp [behindF])
          clear hb h92 hq hc
          go_wp2
          go_ret
          exact ⟨by rw [HF.out]; rfl, rfl⟩
        · have d2 : (((s[j + 1]'hj1).toNat : Int) == m) = false := by
            rw [hc, HM.out, beq_eq_false_iff_ne]
            intro e
            exact hq (UInt8.toNat_inj.1 (by omega))
          have HN := Lib.hid (show behindF q s.data.toList = behindF q (s.data.toList.drop (j + 2)) by rw [HB.out, HD.out, HD2.out, h92, behind_esc _ hq])
          clear hb h92 hq hc
          go_wp2
          go_roundw
          case rel => exact ⟨j + 2, by omega, by go_num, HN.out, trivial⟩
          case measure => simp [intOf]; omega
      · have d : (((s[j]'hjl).toNat : Int) == 92) = false := by rw [hb]; exact ne_num h92
        have HN := Lib.hid (show behindF q s.data.toList = behindF q (s.data.toList.drop (j + 1)) by rw [HB.out, HD.out, behind_plain _ h92])
        clear hb h92 hc
        go_wp2
        go_roundw
        case rel => exact ⟨j + 1, by omega, by go_num, HN.out, trivial⟩
        case measure => simp [intOf]; omega
    · have HF := Lib.hid (show behindF q s.data.toList = false by
        rw [HB.out]
        by_cases hjl : j < s.size
        · rw [drop_at hjl, drop_end hj1]; rfl
        · rw [drop_end hjl]; rfl)
      go_wp2
      go_ret
      exact ⟨by rw [HF.out]; rfl, rfl⟩
set_option maxHeartbeats 1600000 in
theorem count_any (s : ByteArray) (hs : s.size ≤ 2147483647) (q : UInt8) (m : Int) (hm : m = (q.toNat : Int)) (w : World) : Calls Tryf.prog 9 #[.string s, .int .u8 m] w fun e w' => (∃ n : Nat, e = .returned (.int .i64 n) ∧ (0 < n ↔ q ∈ s.data.toList)) ∧ w = w' := by
  have HM := Lib.hid hm; clear hm
  have HLEN := Lib.hid (Lib.size_eq s)
  go_enter Tryf.func9, Tryf.ntmps9
  go_wp2
  go_loopw [5, 9] (fun c i wr => ∃ j n : Nat, j ≤ s.size ∧ i = .int .i64 j ∧ c = .int .i64 n ∧ n ≤ j ∧ (0 < n ↔ q ∈ s.data.toList.take j) ∧ w = wr) (fun _ i _ => s.size - (intOf i).toNat)
  case atStart => exact ⟨0, 0, by omega, rfl, rfl, by omega, by simp, rfl⟩
  case round =>
    obtain ⟨j, n, hj, rfl, rfl, hn, hq, rfl⟩ := hrel
    have HQ := Lib.hid hq; clear hq
    by_cases hjl : j < s.size
    · obtain ⟨b, hb⟩ : ∃ b, (s[j]'hjl) = b := ⟨_, rfl⟩
      have HT := Lib.hid (take_next (byte_at hjl))
      rw [hb] at HT
      by_cases he : b = q
      · have d2 : (((s[j]'hjl).toNat : Int) == m) = true := by rw [hb, he, HM.out]; exact beq_self_eq_true _
        have HN := Lib.hid (show 0 < n + 1 ↔ q ∈ s.data.toList.take (j + 1) by rw [HT.out, he]; simp)
        clear hb he
        go_wp2
        go_roundw
        case rel => exact ⟨j + 1, n + 1, by omega, by go_num, by go_num, by omega, HN.out, trivial⟩
        case measure => simp [intOf]; omega
      · have d2 : (((s[j]'hjl).toNat : Int) == m) = false := by
          rw [hb, HM.out, beq_eq_false_iff_ne]
          intro e
          exact he (UInt8.toNat_inj.1 (by omega))
        have HN := Lib.hid (show 0 < n ↔ q ∈ s.data.toList.take (j + 1) by
          rw [HT.out, HQ.out, List.mem_append]
          have hne : q ≠ b := fun e => he e.symm
          simp [hne])
        clear hb he
        go_wp2
        go_roundw
        case rel => exact ⟨j + 1, n, by omega, by go_num, rfl, by omega, HN.out, trivial⟩
        case measure => simp [intOf]; omega
    · obtain rfl : j = s.size := by omega
      have HN := Lib.hid (show 0 < n ↔ q ∈ s.data.toList by
        have := HQ.out
        rwa [HLEN.out, List.take_length] at this)
      go_wp2
      go_ret
      exact ⟨⟨n, rfl, HN.out⟩, rfl⟩
end Go.Proofs.YtceepfnjdkfjnaaFmt
