/-
  spec.digit, spec.hex, spec.four, spec.escaped. Conditions: a text's length.
-/
import Derived.Test.YtceepfnjdkfjnaaFmtTree
import Derived.Test.YtceepfnjdkfjnaaFmtStrLaw2
import Derived.Laws.BytesString
import Derived.LoopTactic
namespace Go.Proofs.YtceepfnjdkfjnaaFmt
open Go.ChangeShapes Go.WideShapes Go.ChangeAt Go.RowKit Go.Joins

theorem take_next {l : List UInt8} {j : Nat} {b : UInt8} (h : l[j]? = some b) : l.take (j + 1) = l.take j ++ [b] := by rw [List.take_add_one, h]; rfl
theorem digit_any (b : UInt8) (w : World) : Calls Tryf.prog 43 #[.int .u8 (b.toNat : Int)] w fun e w' => e = .returned (.bool (decide (48 ≤ b.toNat ∧ b.toNat ≤ 57))) ∧ w = w' := by
  by_cases h1 : 48 ≤ b.toNat
  · by_cases h2 : b.toNat ≤ 57
    · have e : decide (48 ≤ b.toNat ∧ b.toNat ≤ 57) = true := by simp [h1, h2]
      rw [e]
      have d1 : (48 : Int) ≤ (b.toNat : Int) := by omega
      have d2 : (b.toNat : Int) ≤ 57 := by omega
      clear h1 h2 e
      go_enter Tryf.func43, Tryf.ntmps43
      go_wp2
      go_ret
      exact ⟨rfl, rfl⟩
    · have e : decide (48 ≤ b.toNat ∧ b.toNat ≤ 57) = false := by simp [h2]
      rw [e]
      have d1 : (48 : Int) ≤ (b.toNat : Int) := by omega
      have d2 : ¬ (b.toNat : Int) ≤ 57 := by omega
      clear h1 h2 e
      go_enter Tryf.func43, Tryf.ntmps43
      go_wp2
      go_ret
      exact ⟨rfl, rfl⟩
  · have e : decide (48 ≤ b.toNat ∧ b.toNat ≤ 57) = false := by simp [h1]
    rw [e]
    have d1 : ¬ (48 : Int) ≤ (b.toNat : Int) := by omega
    clear h1 e
    go_enter Tryf.func43, Tryf.ntmps43
    go_wp2
    go_ret
    exact ⟨rfl, rfl⟩
theorem hex_any (b : UInt8) (w : World) : Calls Tryf.prog 24 #[.int .u8 (b.toNat : Int)] w fun e w' => e = .returned (.int .i64 (hexF b)) ∧ w = w' := by
  have hb := b.toNat_lt
  obtain ⟨r, hr⟩ : ∃ r, decide (48 ≤ b.toNat ∧ b.toNat ≤ 57) = r := ⟨_, rfl⟩
  have HD := Lib.hid (digit_any b w)
  rw [hr] at HD
  by_cases hd : 48 ≤ b.toNat ∧ b.toNat ≤ 57
  · obtain rfl : r = true := by rw [← hr]; simp [hd]
    have e : hexF b = b.toNat - 48 := by unfold hexF; rw [if_pos hd]
    rw [e]
    have c0 : (48 : Int) ≤ (b.toNat : Int) := by omega
    have c1 : (b.toNat : Int) ≤ 57 := by omega
    clear hr hd e
    go_enter Tryf.func24, Tryf.ntmps24
    go_wp2_with fail
    refine HD.out.mono ?_
    rintro e w' ⟨rfl, rfl⟩
    go_wp2
    go_ret
    exact ⟨rfl, rfl⟩
  obtain rfl : r = false := by rw [← hr]; simpa using hd
  clear hr
  have key0 : 97 ≤ b.toNat ∧ b.toNat ≤ 102 → Calls Tryf.prog 24 #[.int .u8 (b.toNat : Int)] w fun e w' => e = .returned (.int .i64 (hexF b)) ∧ w = w' := by
    intro h
    have e : hexF b = (b.toNat : Int) - 97 + 10 := by unfold hexF; rw [if_neg hd]; (repeat' split) <;> omega
    rw [e]
    have c : (97 : Int) ≤ (b.toNat : Int) := by omega
    have c' : (b.toNat : Int) ≤ 102 := by omega
    clear h hd e
    go_enter Tryf.func24, Tryf.ntmps24
    go_wp2_with fail
    refine HD.out.mono ?_
    rintro e w' ⟨rfl, rfl⟩
    go_wp2
    go_ret
    exact ⟨rfl, rfl⟩
  have key1 : 102 < b.toNat → Calls Tryf.prog 24 #[.int .u8 (b.toNat : Int)] w fun e w' => e = .returned (.int .i64 (hexF b)) ∧ w = w' := by
    intro h
    have e : hexF b = -1 := by unfold hexF; rw [if_neg hd]; (repeat' split) <;> omega
    rw [e]
    have c : (97 : Int) ≤ (b.toNat : Int) := by omega
    have c' : ¬ (b.toNat : Int) ≤ 102 := by omega
    have k : (65 : Int) ≤ (b.toNat : Int) := by omega
    have k' : ¬ (b.toNat : Int) ≤ 70 := by omega
    clear h hd e
    go_enter Tryf.func24, Tryf.ntmps24
    go_wp2_with fail
    refine HD.out.mono ?_
    rintro e w' ⟨rfl, rfl⟩
    go_wp2
    go_ret
    exact ⟨rfl, rfl⟩
  have key2 : 65 ≤ b.toNat ∧ b.toNat ≤ 70 → Calls Tryf.prog 24 #[.int .u8 (b.toNat : Int)] w fun e w' => e = .returned (.int .i64 (hexF b)) ∧ w = w' := by
    intro h
    have e : hexF b = (b.toNat : Int) - 65 + 10 := by unfold hexF; rw [if_neg hd]; (repeat' split) <;> omega
    rw [e]
    have c : ¬ (97 : Int) ≤ (b.toNat : Int) := by omega
    have k : (65 : Int) ≤ (b.toNat : Int) := by omega
    have k' : (b.toNat : Int) ≤ 70 := by omega
    clear h hd e
    go_enter Tryf.func24, Tryf.ntmps24
    go_wp2_with fail
    refine HD.out.mono ?_
    rintro e w' ⟨rfl, rfl⟩
    go_wp2
    go_ret
    exact ⟨rfl, rfl⟩
  have key3 : 70 < b.toNat ∧ b.toNat < 97 → Calls Tryf.prog 24 #[.int .u8 (b.toNat : Int)] w fun e w' => e = .returned (.int .i64 (hexF b)) ∧ w = w' := by
    intro h
    have e : hexF b = -1 := by unfold hexF; rw [if_neg hd]; (repeat' split) <;> omega
    rw [e]
    have c : ¬ (97 : Int) ≤ (b.toNat : Int) := by omega
    have k : (65 : Int) ≤ (b.toNat : Int) := by omega
    have k' : ¬ (b.toNat : Int) ≤ 70 := by omega
    clear h hd e
    go_enter Tryf.func24, Tryf.ntmps24
    go_wp2_with fail
    refine HD.out.mono ?_
    rintro e w' ⟨rfl, rfl⟩
    go_wp2
    go_ret
    exact ⟨rfl, rfl⟩
  have key4 : b.toNat < 65 → Calls Tryf.prog 24 #[.int .u8 (b.toNat : Int)] w fun e w' => e = .returned (.int .i64 (hexF b)) ∧ w = w' := by
    intro h
    have e : hexF b = -1 := by unfold hexF; rw [if_neg hd]; (repeat' split) <;> omega
    rw [e]
    have c : ¬ (97 : Int) ≤ (b.toNat : Int) := by omega
    have k : ¬ (65 : Int) ≤ (b.toNat : Int) := by omega
    clear h hd e
    go_enter Tryf.func24, Tryf.ntmps24
    go_wp2_with fail
    refine HD.out.mono ?_
    rintro e w' ⟨rfl, rfl⟩
    go_wp2
    go_ret
    exact ⟨rfl, rfl⟩
  by_cases h1 : 97 ≤ b.toNat ∧ b.toNat ≤ 102
  · exact key0 h1
  by_cases h2 : 102 < b.toNat
  · exact key1 h2
  by_cases h3 : 65 ≤ b.toNat ∧ b.toNat ≤ 70
  · exact key2 h3
  by_cases h4 : 70 < b.toNat ∧ b.toNat < 97
  · exact key3 h4
  exact key4 (by omega)

/-! ### spec.four -/
theorem byte_at {s : ByteArray} {i : Nat} (hi : i < s.size) : s.data.toList[i]? = some s[i] := by
  rw [List.getElem?_eq_getElem (by rw [← Lib.size_eq]; exact hi)]
  rfl
/-- What the first figures of four stand for, while all are figures. -/
def figs (l : List UInt8) : Int := l.foldl (fun n b => n * 16 + hexF b) 0
theorem figs_snoc (l : List UInt8) (b : UInt8) : figs (l ++ [b]) = figs l * 16 + hexF b := by simp [figs]
theorem figs_range : ∀ (l : List UInt8), (∀ b ∈ l, 0 ≤ hexF b) → l.length ≤ 4 → 0 ≤ figs l ∧ figs l < 65536 := by
  intro l h hl
  match l, h, hl with
  | [], _, _ => simp [figs]
  | [a], h, _ => have := hexF_le (h a (by simp)); have := h a (by simp); simp [figs]; omega
  | [a, b], h, _ => have := hexF_le (h a (by simp)); have := h a (by simp); have := hexF_le (h b (by simp)); have := h b (by simp); simp [figs]; omega
  | [a, b, c], h, _ => have := hexF_le (h a (by simp)); have := h a (by simp); have := hexF_le (h b (by simp)); have := h b (by simp); have := hexF_le (h c (by simp)); have := h c (by simp); simp [figs]; omega
  | [a, b, c, d], h, _ => have := hexF_le (h a (by simp)); have := h a (by simp); have := hexF_le (h b (by simp)); have := h b (by simp); have := hexF_le (h c (by simp)); have := h c (by simp); have := hexF_le (h d (by simp)); have := h d (by simp); simp [figs]; omega
  | _ :: _ :: _ :: _ :: _ :: _, _, hl => simp at hl
theorem four_yes {t : List UInt8} (hl : 4 ≤ t.length) (h : ∀ b ∈ t.take 4, 0 ≤ hexF b) : fourF t = figs (t.take 4) := by
  match t, hl, h with
  | a :: b :: c :: d :: u, _, h =>
    have := h a (by simp); have := h b (by simp); have := h c (by simp); have := h d (by simp)
    simp only [fourF]
    rw [if_neg (by omega)]
    simp [figs]
theorem four_no {t : List UInt8} {b : UInt8} (hb : b ∈ t.take 4) (h : hexF b < 0) : fourF t = -1 := by
  match t, hb with
  | a :: b' :: c :: d :: u, hb =>
    simp only [fourF]
    rw [if_pos]
    simp at hb
    rcases hb with rfl | rfl | rfl | rfl <;> simp [h]
  | [], hb => rfl
  | [_], hb => rfl
  | [_, _], hb => rfl
  | [_, _, _], hb => rfl
theorem four_short {t : List UInt8} (h : t.length < 4) : fourF t = -1 := by
  match t, h with
  | [], _ => rfl
  | [_], _ => rfl
  | [_, _], _ => rfl
  | [_, _, _], _ => rfl
  | _ :: _ :: _ :: _ :: _, h => simp at h; omega
set_option maxHeartbeats 1600000 in
theorem four_any (s : ByteArray) (hs : s.size ≤ 2147483647) (i : Nat) (hi : i ≤ s.size) (w : World) : Calls Tryf.prog 18 #[.string s, .int .i64 i] w fun e w' => e = .returned (.int .i64 (fourF (s.data.toList.drop i))) ∧ w = w' := by
  have HLEN := Lib.hid (Lib.size_eq s).symm
  by_cases h4 : i + 4 ≤ s.size
  · have d : ¬ ((i : Int) + 4 > (s.size : Int)) := by omega
    go_enter Tryf.func18, Tryf.ntmps18
    go_wp2
    go_loopw [5, 13] (fun n j wr => ∃ k : Nat, k ≤ 4 ∧ j = .int .i64 k ∧ n = .int .i64 (figs ((s.data.toList.drop i).take k)) ∧ (∀ b ∈ (s.data.toList.drop i).take k, 0 ≤ hexF b) ∧ w = wr) (fun _ j _ => 4 - (intOf j).toNat)
    case atStart => exact ⟨0, by omega, rfl, rfl, by simp, rfl⟩
    case round =>
      obtain ⟨k, hk, rfl, rfl, hp, rfl⟩ := hrel
      have HP := Lib.hid hp
      have hr := figs_range _ hp (by rw [List.length_take]; omega)
      obtain ⟨N, hN⟩ : ∃ N, figs ((s.data.toList.drop i).take k) = N := ⟨_, rfl⟩
      rw [hN] at hr ⊢
      have HN := Lib.hid hN
      clear hp hN
      by_cases hk4 : k < 4
      · have hik : i + k < s.size := by omega
        have hby : (s.data.toList.drop i)[k]? = some (s[i + k]'hik) := by rw [List.getElem?_drop]; exact byte_at hik
        have HBY := Lib.hid (take_next hby)
        have HIN := Lib.hid (show (s[i + k]'hik) ∈ (s.data.toList.drop i).take 4 from by
          refine List.mem_of_getElem? (i := k) ?_
          rw [List.getElem?_take, if_pos hk4]
          exact hby)
        obtain ⟨b, hb⟩ : ∃ b, (s[i + k]'hik) = b := ⟨_, rfl⟩
        have HX := Lib.hid (hex_any b w)
        clear hby
        by_cases hx : hexF b < 0
        · have HF := Lib.hid (four_no (hb ▸ HIN.out) hx)
          go_wp2_with fail
          refine HX.out.mono ?_
          rintro e w' ⟨rfl, rfl⟩
          go_wp2
          go_ret
          exact ⟨by rw [HF.out]; rfl, rfl⟩
        · have hle := hexF_le (Int.not_lt.1 hx)
          have hx2 : 0 ≤ hexF b := Int.not_lt.1 hx
          have HNX := Lib.hid (show figs ((s.data.toList.drop i).take (k + 1)) = N * 16 + hexF b by rw [HBY.out, figs_snoc, HN.out, hb])
          have HPX := Lib.hid (show ∀ c ∈ (s.data.toList.drop i).take (k + 1), 0 ≤ hexF c from fun c hc => by
            rw [HBY.out, hb] at hc
            rcases List.mem_append.1 hc with h | h
            · exact HP.out c h
            · rw [List.mem_singleton.1 h]; exact hx2)
          go_wp2_with fail
          refine HX.out.mono ?_
          rintro e w' ⟨rfl, rfl⟩
          go_wp2
          go_roundw
          case rel => exact ⟨k + 1, by omega, by go_num, by rw [HNX.out], HPX.out, trivial⟩
          case measure => simp [intOf]; omega
      · obtain rfl : k = 4 := by omega
        have HF := Lib.hid (four_yes (t := s.data.toList.drop i) (by rw [List.length_drop, HLEN.out]; omega) HP.out)
        go_wp2
        go_ret
        exact ⟨by rw [HF.out, HN.out]; rfl, rfl⟩
  · have d : (i : Int) + 4 > (s.size : Int) := by omega
    rw [four_short (by rw [List.length_drop, HLEN.out]; omega)]
    go_enter Tryf.func18, Tryf.ntmps18
    go_wp2
    go_ret
    exact ⟨rfl, rfl⟩

/-! ### spec.escaped -/
def bs (l : List UInt8) : ByteArray := ⟨l.toArray⟩
/-- One byte as a text. -/
theorem conv_one (w : World) (n : Int) (b : UInt8) (hb : UInt8.ofNat n.toNat = b) : (convert 79 9 (.slice (some ⟨w.heap.size, 0, none⟩) 1 1)).run Tryf.prog (w.alloc (.cells #[.int .u8 n] 5)) = .ok (.string ⟨#[b]⟩) (w.alloc (.cells #[.int .u8 n] 5)) := by
  rw [run_convert_bytes_string _ _ _ 5 _ _ _ Tryf.underlying79 Tryf.underlying5 Tryf.underlying9]
  rw [run_bytesToString _ _ 1 1 [n] (run_loadCells_list (w := w.alloc (.cells #[.int .u8 n] 5)) ⟨w.heap.size, 0, none⟩ [Value.int .u8 n] (fun j v hj => by
    cases j with
    | zero =>
      obtain rfl : _ = v := by simpa using hj
      exact cell_of (j := 0) (heap_alloc_new w _) rfl
    | succ j => simp at hj))]
  subst hb
  rfl
def EscBack (b : UInt8) (w : World) (e : Ending) (w' : World) : Prop := e = .returned (.string (bs (escF b))) ∧ Below w.heap.size w w'
set_option maxRecDepth 100000 in
theorem escaped_any (b : UInt8) (w : World) : Calls Tryf.prog 17 #[.int .u8 (b.toNat : Int)] w fun e w' => EscBack b w e w' := by
  by_cases h34 : b = 34
  · subst h34
    have hc := conv_one w 34 34 (by decide)
    go_enter Tryf.func17, Tryf.ntmps17
    go_wp2
    go_ret
    exact ⟨rfl, below_alloc1 _ _⟩
  by_cases h39 : b = 39
  · subst h39
    have hc := conv_one w 39 39 (by decide)
    go_enter Tryf.func17, Tryf.ntmps17
    go_wp2
    go_ret
    exact ⟨rfl, below_alloc1 _ _⟩
  by_cases h92 : b = 92
  · subst h92
    have hc := conv_one w 92 92 (by decide)
    go_enter Tryf.func17, Tryf.ntmps17
    go_wp2
    go_ret
    exact ⟨rfl, below_alloc1 _ _⟩
  by_cases h47 : b = 47
  · subst h47
    have hc := conv_one w 47 47 (by decide)
    go_enter Tryf.func17, Tryf.ntmps17
    go_wp2
    go_ret
    exact ⟨rfl, below_alloc1 _ _⟩
  by_cases h98 : b = 98
  · subst h98
    go_enter Tryf.func17, Tryf.ntmps17
    go_wp2
    go_ret
    exact ⟨rfl, Below.refl _ _⟩
  by_cases h102 : b = 102
  · subst h102
    go_enter Tryf.func17, Tryf.ntmps17
    go_wp2
    go_ret
    exact ⟨rfl, Below.refl _ _⟩
  by_cases h110 : b = 110
  · subst h110
    go_enter Tryf.func17, Tryf.ntmps17
    go_wp2
    go_ret
    exact ⟨rfl, Below.refl _ _⟩
  by_cases h114 : b = 114
  · subst h114
    go_enter Tryf.func17, Tryf.ntmps17
    go_wp2
    go_ret
    exact ⟨rfl, Below.refl _ _⟩
  by_cases h116 : b = 116
  · subst h116
    go_enter Tryf.func17, Tryf.ntmps17
    go_wp2
    go_ret
    exact ⟨rfl, Below.refl _ _⟩
  have d34 : ((b.toNat : Int) == 34) = false := by rw [beq_eq_false_iff_ne]; intro e; exact h34 (UInt8.toNat_inj.1 (by simpa using (by omega : b.toNat = 34)))
  have d39 : ((b.toNat : Int) == 39) = false := by rw [beq_eq_false_iff_ne]; intro e; exact h39 (UInt8.toNat_inj.1 (by simpa using (by omega : b.toNat = 39)))
  have d92 : ((b.toNat : Int) == 92) = false := by rw [beq_eq_false_iff_ne]; intro e; exact h92 (UInt8.toNat_inj.1 (by simpa using (by omega : b.toNat = 92)))
  have d47 : ((b.toNat : Int) == 47) = false := by rw [beq_eq_false_iff_ne]; intro e; exact h47 (UInt8.toNat_inj.1 (by simpa using (by omega : b.toNat = 47)))
  have d98 : ((b.toNat : Int) == 98) = false := by rw [beq_eq_false_iff_ne]; intro e; exact h98 (UInt8.toNat_inj.1 (by simpa using (by omega : b.toNat = 98)))
  have d102 : ((b.toNat : Int) == 102) = false := by rw [beq_eq_false_iff_ne]; intro e; exact h102 (UInt8.toNat_inj.1 (by simpa using (by omega : b.toNat = 102)))
  have d110 : ((b.toNat : Int) == 110) = false := by rw [beq_eq_false_iff_ne]; intro e; exact h110 (UInt8.toNat_inj.1 (by simpa using (by omega : b.toNat = 110)))
  have d114 : ((b.toNat : Int) == 114) = false := by rw [beq_eq_false_iff_ne]; intro e; exact h114 (UInt8.toNat_inj.1 (by simpa using (by omega : b.toNat = 114)))
  have d116 : ((b.toNat : Int) == 116) = false := by rw [beq_eq_false_iff_ne]; intro e; exact h116 (UInt8.toNat_inj.1 (by simpa using (by omega : b.toNat = 116)))
  have e : escF b = [] := by unfold escF; rw [if_neg (by simp [h34, h39, h92, h47]), if_neg h98, if_neg h102, if_neg h110, if_neg h114, if_neg h116]
  unfold EscBack
  rw [e]
  clear e h34 h39 h92 h47 h98 h102 h110 h114 h116
  go_enter Tryf.func17, Tryf.ntmps17
  go_wp2
  go_ret
  exact ⟨rfl, Below.refl _ _⟩
end Go.Proofs.YtceepfnjdkfjnaaFmt
