/-
  spec.IsName tells whether a text is a name. Conditions: the text's length.
-/
import Derived.Test.YtlgajopaokjjaaaGreatFmtIsName
namespace Go.Proofs.YtlgajopaokjjaaaGreatFmt
open Go.ChangeShapes Go.WideShapes Go.ChangeAt Go.RowKit Go.Joins
theorem byte_at {s : ByteArray} {i : Nat} (hi : i < s.size) : s.data.toList[i]? = some s[i] := by
  rw [List.getElem?_eq_getElem (by rw [← Lib.size_eq]; exact hi)]
  rfl
set_option maxRecDepth 100000 in
set_option maxHeartbeats 1000000 in
theorem isName_any (s : ByteArray) (hs : s.size ≤ 4398046511104) (w : World) : Calls Tryz.prog 29 #[.string s] w fun e w' => e = .returned (.bool (nameB s.data.toList)) ∧ Below w.heap.size w w' := by
  go_enter Tryz.func29, Tryz.ntmps29
  go_wp2_with fail
  go_loopw [6] (fun i wr => ∃ j : Nat, j ≤ s.size ∧ i = .int .i64 j ∧ (j = 0 ∨ headB s.data.toList = (s.data.toList.drop j).all (fun c => letterB c || digitB c)) ∧ wr = w) (fun i _ => s.size - (intOf i).toNat)
  case atStart => exact ⟨0, Nat.zero_le _, rfl, .inl rfl, rfl⟩
  case round =>
    obtain ⟨j, hj, rfl, hinv, rfl⟩ := hrel
    have HI := Lib.hid hinv
    clear hinv
    by_cases hjl : j < s.size
    · have hb := byte_at hjl
      have hdr : s.data.toList.drop j = s[j] :: s.data.toList.drop (j + 1) := by
        have hl : j < s.data.toList.length := by rw [← Lib.size_eq]; exact hjl
        rw [List.drop_eq_getElem_cons hl]
        rfl
      have HDR := Lib.hid hdr
      clear hdr hb
      have HZ := Lib.hid (fun (hz : j = 0) => (show headB s.data.toList = (letterB s[j] && (s.data.toList.drop (j + 1)).all (fun c => letterB c || digitB c)) by
        have e : s.data.toList = s[j] :: s.data.toList.drop (j + 1) := by
          have := HDR.out
          rw [show s.data.toList.drop j = s.data.toList from by rw [hz]; rfl] at this
          exact this
        conv => lhs; rw [e]
        rfl))
      have HN := Lib.hid (fun (hz : j ≠ 0) => (show headB s.data.toList = ((letterB s[j] || digitB s[j]) && (s.data.toList.drop (j + 1)).all (fun c => letterB c || digitB c)) by
        rcases HI.out with h | h
        · exact absurd h hz
        · rw [h, HDR.out, List.all_cons]))
      cases hf : firstR ((s[j]).toNat : Int) with
      | true =>
        have HH := Lib.hid (show headB s.data.toList = (s.data.toList.drop (j + 1)).all (fun c => letterB c || digitB c) by
          by_cases hz : j = 0
          · rw [HZ.out hz, letter_first, hf]; simp
          · rw [HN.out hz, letter_first, hf]; simp)
        go_wp2_with fail
        refine (sletter_any s[j] wr).mono ?_
        rintro e w1 ⟨rfl, rfl⟩
        go_wp2
        go_roundw
        case rel => exact ⟨j + 1, by omega, by go_num, .inr HH.out, by first | rfl | trivial⟩
        case measure => simp [intOf]; omega
      | false =>
        by_cases hz : j = 0
        · have HB := Lib.hid (show nameB s.data.toList = false by rw [nameB_head, HZ.out hz, letter_first, hf]; simp)
          have d0 : ((j : Int) == 0) = true := by rw [hz]; rfl
          clear hz
          go_wp2_with fail
          refine (sletter_any s[j] wr).mono ?_
          rintro e w1 ⟨rfl, rfl⟩
          go_wp2
          go_ret
          exact ⟨by rw [HB.out]; simp, Below.refl _ _⟩
        · have d0 : ((j : Int) == 0) = false := by rw [beq_eq_false_iff_ne]; omega
          have hd := sdigit_any s[j] wr
          cases hdd : (decide (48 ≤ ((s[j]).toNat : Int)) && decide (((s[j]).toNat : Int) ≤ 57)) with
          | true =>
            rw [hdd] at hd
            have HH := Lib.hid (show headB s.data.toList = (s.data.toList.drop (j + 1)).all (fun c => letterB c || digitB c) by
              rw [HN.out hz, digit_rest]
              unfold restR
              rw [hf, hdd]; simp)
            have HD := Lib.hid hd
            clear hd hz hdd
            go_wp2_with fail
            refine (sletter_any s[j] wr).mono ?_
            rintro e w1 ⟨rfl, rfl⟩
            go_wp2_with fail
            refine HD.out.mono ?_
            rintro e w1 ⟨rfl, rfl⟩
            go_wp2
            go_roundw
            case rel => exact ⟨j + 1, by omega, by go_num, .inr HH.out, by first | rfl | trivial⟩
            case measure => simp [intOf]; omega
          | false =>
            rw [hdd] at hd
            have HB := Lib.hid (show nameB s.data.toList = false by
              rw [nameB_head, HN.out hz, digit_rest]
              unfold restR
              rw [hf, hdd]; simp)
            have HD := Lib.hid hd
            clear hd hz hdd
            go_wp2_with fail
            refine (sletter_any s[j] wr).mono ?_
            rintro e w1 ⟨rfl, rfl⟩
            go_wp2_with fail
            refine HD.out.mono ?_
            rintro e w1 ⟨rfl, rfl⟩
            go_wp2
            go_ret
            exact ⟨by rw [HB.out]; simp, Below.refl _ _⟩
    · obtain rfl : j = s.size := by omega
      by_cases h0 : s.size = 0
      · have HB := Lib.hid (show nameB s.data.toList = false by
          have : s.data.toList = [] := List.eq_nil_of_length_eq_zero (by rw [← Lib.size_eq]; exact h0)
          rw [this]; rfl)
        have d0 : ¬ (s.size : Int) > 0 := by omega
        clear h0
        go_wp2
        go_ret
        exact ⟨by rw [HB.out]; simp, Below.refl _ _⟩
      · have HB := Lib.hid (show nameB s.data.toList = !keyLit.contains s.toList by
          have hh : headB s.data.toList = true := by
            rcases HI.out with h | h
            · exact absurd h h0
            · rw [h, List.drop_eq_nil_of_le (by rw [← Lib.size_eq]; exact Nat.le_refl _)]; rfl
          rw [nameB_head, hh, toList_data]; rfl)
        have d0 : (s.size : Int) > 0 := by omega
        clear h0
        go_wp2_with fail
        refine (keys_any wr).mono ?_
        rintro e w1 ⟨rfl, hk, hb1⟩
        have HK := Lib.hid hk; have HB1 := Lib.hid hb1
        clear hk hb1
        go_wp2_with fail
        refine (has_any wr.heap.size s w1 HK.out).mono ?_
        rintro e w2 ⟨rfl, rfl⟩
        go_wp2
        go_ret
        exact ⟨by rw [HB.out]; simp, HB1.out⟩
end Go.Proofs.YtlgajopaokjjaaaGreatFmt
