/-
  spec.Unescape. Conditions: a text's length.
-/
import Derived.Test.YtceepfnjdkfjnaaFmtStrHex
import Derived.Test.YtceepfnjdkfjnaaFmtStrUtf
namespace Go.Proofs.YtceepfnjdkfjnaaFmt
open Go.ChangeShapes Go.WideShapes Go.ChangeAt Go.RowKit Go.Joins

theorem unL_wrong1 : unL [92] = (2, []) := by
  rw [unL_step (by simp)]
  rfl
theorem unL_wrong2 {e : UInt8} {t : List UInt8} (he : escF e = []) (hu : e ≠ 117) : unL (92 :: e :: t) = (2, []) := by
  rw [unL_step (by simp)]
  have : stepU (92 :: e :: t) = (2, [], 1) := by
    simp only [stepU]
    rw [if_neg (by simp), if_neg (by simp [he]), if_pos hu]
  rw [this]
  rfl
theorem unL_wrong3 {t : List UInt8} (h : fourF t < 0) : unL (92 :: 117 :: t) = (2, []) := by
  rw [unL_step (by simp)]
  have : stepU (92 :: 117 :: t) = (2, [], 1) := by
    simp only [stepU]
    rw [if_neg (by simp), if_neg (by decide), if_neg (by simp), if_pos h]
  rw [this]
  rfl
theorem unL_open {t : List UInt8} (h1 : 55296 ≤ fourF t) (h2 : fourF t < 57344) (h : lowF (fourF t) (t.drop 4) < 56320 ∨ 57344 ≤ lowF (fourF t) (t.drop 4)) : unL (92 :: 117 :: t) = (0, []) := by
  rw [unL_step (by simp)]
  have : stepU (92 :: 117 :: t) = (0, [], 1) := by
    simp only [stepU]
    rw [if_neg (by simp), if_neg (by decide), if_neg (by simp), if_neg (by omega), if_pos ⟨h1, h2⟩, if_pos h]
  rw [this]
  rfl
theorem unL_pair {t u : List UInt8} (h1 : 55296 ≤ fourF t) (h2 : fourF t < 56320) (hd : t.drop 4 = 92 :: 117 :: u) (h3 : 56320 ≤ fourF u) (h4 : fourF u < 57344) :
    unL (92 :: 117 :: t) = ((unL (u.drop 4)).1, enc (65536 + (fourF t - 55296) * 1024 + fourF u - 56320).toNat ++ (unL (u.drop 4)).2) := by
  rw [unL_step (by simp)]
  have hlow : lowF (fourF t) (t.drop 4) = fourF u := by rw [hd]; simp [lowF, h2]
  have hst2 : stepU (92 :: 117 :: t) = (1, enc (65536 + (fourF t - 55296) * 1024 + fourF u - 56320).toNat, 12) := by
    simp only [stepU]
    rw [if_neg (by simp), if_neg (by decide), if_neg (by simp), if_neg (by omega), if_pos ⟨h1, by omega⟩, hlow, if_neg (by omega)]
  rw [hst2]
  have hdd : (92 :: 117 :: t).drop 12 = u.drop 4 := by
    have : t.drop 10 = (t.drop 4).drop 6 := by rw [List.drop_drop]
    rw [List.drop_succ_cons, List.drop_succ_cons, this, hd]
    rfl
  simp only [hdd]
  simp

theorem low_no {n : Int} {t : List UInt8} (h : ¬ n < 56320) : lowF n t = -1 := by
  match t with
  | [] => rfl
  | [_] => rfl
  | _ :: _ :: _ => simp [lowF, h]
theorem low_short {n : Int} {t : List UInt8} (h : t.length < 2) : lowF n t = -1 := by
  match t, h with
  | [], _ => rfl
  | [_], _ => rfl
  | _ :: _ :: _, h => simp at h; omega
theorem low_other {n : Int} {a b : UInt8} {t : List UInt8} (h : ¬ (a = 92 ∧ b = 117)) : lowF n (a :: b :: t) = -1 := by
  have : ¬ (n < 56320 ∧ a = 92 ∧ b = 117) := fun x => h x.2
  simp only [lowF, if_neg this]
theorem low_yes {n : Int} {t : List UInt8} (h : n < 56320) : lowF n (92 :: 117 :: t) = fourF t := by simp [lowF, h]
/-- A text is unescaped up to a place. -/
def UnAt (s : ByteArray) (j : Nat) (acc : List UInt8) : Prop := unL s.data.toList = ((unL (s.data.toList.drop j)).1, acc ++ (unL (s.data.toList.drop j)).2)
theorem UnAt.step {s : ByteArray} {j k : Nat} {acc x : List UInt8} (h : UnAt s j acc) (hx : unL (s.data.toList.drop j) = ((unL (s.data.toList.drop (j + k))).1, x ++ (unL (s.data.toList.drop (j + k))).2)) : UnAt s (j + k) (acc ++ x) := by
  unfold UnAt at *
  rw [h, hx, List.append_assoc]
theorem UnAt.bad {s : ByteArray} {j : Nat} {acc : List UInt8} (h : UnAt s j acc) {n : Int} (hx : unL (s.data.toList.drop j) = (n, [])) : (unL s.data.toList).1 = n := by
  unfold UnAt at h
  rw [h, hx]
theorem drop_at {s : ByteArray} {j : Nat} (h : j < s.size) : s.data.toList.drop j = (s[j]'h) :: s.data.toList.drop (j + 1) := by
  rw [List.drop_eq_getElem_cons (by rw [← Lib.size_eq]; exact h)]
  rfl
theorem bs_size (l : List UInt8) : (bs l).size = l.length := by simp [bs, ByteArray.size]
theorem bs_toList (l : List UInt8) : (bs l).toList = l := by rw [ByteArray.toList_eq]; rfl
theorem bs_append (a b : List UInt8) : bs a ++ bs b = bs (a ++ b) := by
  unfold bs
  apply ByteArray.ext
  simp
theorem bs_list (a : ByteArray) : bs a.data.toList = a := by cases a; simp [bs]
theorem bs_enc (r : Nat) : Utf8.encode (r : Int) = bs (enc r) := by
  rw [← bs_list (Utf8.encode _), enc_list]
theorem ne_num {b : UInt8} {n : Nat} (h : b ≠ UInt8.ofNat n) : ((b.toNat : Int) == (n : Int)) = false := by
  rw [beq_eq_false_iff_ne]
  intro e
  exact h (by rw [← show b.toNat = n by omega]; simp)
theorem esc_len (e : UInt8) : (escF e).length ≤ 1 := by
  unfold escF
  repeat' split
  all_goals simp
def Unesc (s : ByteArray) (w : World) (e : Ending) (w' : World) : Prop :=
  (∃ (x : ByteArray) (st : Int), e = .returned (.tuple #[.string x, .int .i64 st]) ∧ (Val s.data.toList → st = (unL s.data.toList).1 ∧ (st = 1 → x.data.toList = (unL s.data.toList).2)) ∧ (¬ Val s.data.toList → st = 0)) ∧ Below w.heap.size w w'
set_option maxRecDepth 100000 in
set_option maxHeartbeats 4000000 in
theorem unescape_any (s : ByteArray) (hs : s.size ≤ 2147483647) (w : World) : Calls Tryf.prog 5 #[.string s] w fun e w' => Unesc s w e w' := by
  have HU := Lib.hid (utf_any s hs w)
  go_enter Tryf.func5, Tryf.ntmps5
  go_wp2_with fail
  refine HU.out.mono ?_
  rintro e w1 ⟨⟨r, rfl, hr⟩, hb1⟩
  have HB1 := Lib.hid hb1
  have HR := Lib.hid hr
  clear hb1 hr
  cases r
  · have hv : ¬ Val s.data.toList := fun h => by have := HR.out.2 h; cases this
    have HV := Lib.hid hv; clear hv
    go_wp2
    go_ret2
    exact ⟨⟨_, _, rfl, fun h => absurd h HV.out, fun _ => rfl⟩, HB1.out⟩
  have HV := Lib.hid (HR.out.1 rfl)
  go_wp2
  go_loopw [4, 5] (fun v i wr => ∃ (j : Nat) (acc : List UInt8), j ≤ s.size ∧ i = .int .i64 j ∧ v = .string (bs acc) ∧ UnAt s j acc ∧ acc.length ≤ j ∧ Below w.heap.size w wr) (fun _ i _ => s.size - (intOf i).toNat)
  case atStart => exact ⟨0, [], Nat.zero_le _, rfl, rfl, by simp [UnAt], Nat.le_refl _, HB1.out⟩
  case round =>
    obtain ⟨j, acc, hj, rfl, rfl, hun, hac, hB⟩ := hrel
    have hbs : (bs acc).size ≤ j := by rw [bs_size]; exact hac
    have HUN := Lib.hid hun; clear hun
    have HB := Lib.hid hB; clear hB
    by_cases hjl : j < s.size
    · have HDR := Lib.hid (drop_at hjl)
      obtain ⟨b, hb⟩ : ∃ b, (s[j]'hjl) = b := ⟨_, rfl⟩
      rw [hb] at HDR
      by_cases h92 : b = 92
      · subst h92
        have d : (((s[j]'hjl).toNat : Int) == 92) = true := by rw [hb]; rfl
        by_cases hend : j + 1 < s.size
        · have HDR1 := Lib.hid (drop_at hend)
          obtain ⟨e1, he1⟩ : ∃ e1, (s[j + 1]'hend) = e1 := ⟨_, rfl⟩
          rw [he1] at HDR1
          have HD2 := Lib.hid (show s.data.toList.drop j = 92 :: e1 :: s.data.toList.drop (j + 1 + 1) by rw [HDR.out, HDR1.out])
          have HES := Lib.hid (escaped_any e1 wr)
          clear hb
          go_wp2_with fail
          refine HES.out.mono ?_
          rintro e w2 ⟨rfl, hb2⟩
          have HB2 := Lib.hid (HB.out.trans (hb2.mono HB.out.size))
          clear hb2
          by_cases hesc : escF e1 = []
          · have de : (bs (escF e1)).toList.isEmpty = true := by rw [bs_toList, hesc]; rfl
            by_cases hu : e1 = 117
            · subst hu
              have du : (((s[j + 1]'hend).toNat : Int) == 117) = true := by rw [he1]; rfl
              have HFO := Lib.hid (fun (m : Int) (hm : m = (j : Int) + 2) => (show Calls Tryf.prog 18 #[.string s, .int .i64 m] w2 _ from by
                have := four_any s hs (j + 2) (by omega) w2
                rw [show ((j + 2 : Nat) : Int) = m by omega] at this
                exact this))
              obtain ⟨n, hn⟩ : ∃ n, fourF (s.data.toList.drop (j + 2)) = n := ⟨_, rfl⟩
              rw [hn] at HFO
              have HN := Lib.hid hn
              have HD3 := Lib.hid (show s.data.toList.drop j = 92 :: 117 :: s.data.toList.drop (j + 2) from HD2.out)
              have h4 : 0 ≤ n → n ≤ 65535 := fun h => by rw [← hn] at h ⊢; exact four_range h
              clear hn he1 hesc
              go_wp2_with fail
              refine (HFO.out _ (by omega)).mono ?_
              rintro e w3 ⟨rfl, rfl⟩
              by_cases hn0 : n < 0
              · have HW := Lib.hid (HUN.out.bad (show unL (s.data.toList.drop j) = (2, []) by rw [HD3.out]; exact unL_wrong3 (by rw [HN.out]; exact hn0)))
                go_wp2
                go_ret2
                exact ⟨⟨_, _, rfl, fun _ => by rw [HW.out]; exact ⟨rfl, fun h => by cases h⟩, fun h => absurd HV.out h⟩, HB2.out⟩
              have h0 : 0 ≤ n := Int.not_lt.1 hn0
              have h5 := h4 h0
              have HL := Lib.hid (show j + 6 ≤ s.size by
                obtain ⟨_, _, _, _, u, hu, _⟩ := four_parts (t := s.data.toList.drop (j + 2)) (by rw [HN.out]; exact h0)
                have := congrArg List.length hu
                rw [List.length_drop, ← Lib.size_eq] at this
                simp at this
                omega)
              have hj6 := HL.out
              have HDD := Lib.hid (show (s.data.toList.drop (j + 2)).drop 4 = s.data.toList.drop (j + 6) by rw [List.drop_drop])
              clear hn0 h4
              by_cases hsr : 55296 ≤ n ∧ n < 57344
              · obtain ⟨s1, s2⟩ := hsr
                have OPEN := Lib.hid (fun (h : lowF n (s.data.toList.drop (j + 6)) < 56320 ∨ 57344 ≤ lowF n (s.data.toList.drop (j + 6))) => HUN.out.bad (show unL (s.data.toList.drop j) = (0, []) by
                  rw [HD3.out]
                  exact unL_open (by rw [HN.out]; exact s1) (by rw [HN.out]; exact s2) (by rw [HDD.out, HN.out]; exact h)))
                by_cases n1 : n < 56320
                · by_cases n2 : j + 7 < s.size
                  · have p6 : j + 6 < s.size := by omega
                    have HE6 := Lib.hid (show s.data.toList.drop (j + 6) = (s[j + 6]'p6) :: (s[j + 7]'n2) :: s.data.toList.drop (j + 8) by rw [drop_at p6, drop_at (show j + 6 + 1 < s.size from n2)])
                    obtain ⟨a6, ha6⟩ : ∃ a, (s[j + 6]'p6) = a := ⟨_, rfl⟩
                    obtain ⟨a7, ha7⟩ : ∃ a, (s[j + 7]'n2) = a := ⟨_, rfl⟩
                    rw [ha6, ha7] at HE6
                    by_cases e6 : a6 = 92
                    · have d6 : (((s[j + 6]'p6).toNat : Int) == 92) = true := by rw [ha6, e6]; rfl
                      by_cases e7 : a7 = 117
                      · have d7 : (((s[j + 7]'n2).toNat : Int) == 117) = true := by rw [ha7, e7]; rfl
                        subst e6 e7
                        have HFP := Lib.hid (fun (m : Int) (hm : m = (j : Int) + 8) => (show Calls Tryf.prog 18 #[.string s, .int .i64 m] w2 _ from by
                          have := four_any s hs (j + 8) (by omega) w2
                          rw [show ((j + 8 : Nat) : Int) = m by omega] at this
                          exact this))
                        obtain ⟨m, hm⟩ : ∃ m, fourF (s.data.toList.drop (j + 8)) = m := ⟨_, rfl⟩
                        rw [hm] at HFP
                        have HM := Lib.hid hm
                        have hm4 : 0 ≤ m → m ≤ 65535 := fun h => by rw [← hm] at h ⊢; exact four_range h
                        have HLOW := Lib.hid (show lowF n (s.data.toList.drop (j + 6)) = m by rw [HE6.out, low_yes n1, hm])
                        clear hm ha6 ha7
                        go_wp2_with fail
                        refine (HFP.out _ (by omega)).mono ?_
                        rintro e w4 ⟨rfl, rfl⟩
                        by_cases m1 : m < 56320
                        · have HW := Lib.hid (OPEN.out (.inl (by rw [HLOW.out]; exact m1)))
                          go_wp2
                          go_ret2
                          exact ⟨⟨_, _, rfl, fun _ => by rw [HW.out]; exact ⟨rfl, fun h => by cases h⟩, fun h => absurd HV.out h⟩, HB2.out⟩
                        by_cases m2 : 57344 ≤ m
                        · have HW := Lib.hid (OPEN.out (.inr (by rw [HLOW.out]; exact m2)))
                          go_wp2
                          go_ret2
                          exact ⟨⟨_, _, rfl, fun _ => by rw [HW.out]; exact ⟨rfl, fun h => by cases h⟩, fun h => absurd HV.out h⟩, HB2.out⟩
                        have m3 : m < 57344 := Int.not_le.1 m2
                        have m0 : 56320 ≤ m := Int.not_lt.1 m1
                        have HL2 := Lib.hid (show j + 12 ≤ s.size by
                          obtain ⟨_, _, _, _, u, hu, _⟩ := four_parts (t := s.data.toList.drop (j + 8)) (by rw [HM.out]; omega)
                          have := congrArg List.length hu
                          rw [List.length_drop, ← Lib.size_eq] at this
                          simp at this
                          omega)
                        have hj12 := HL2.out
                        have hu2 := unL_pair (t := s.data.toList.drop (j + 2)) (u := s.data.toList.drop (j + 8)) (by rw [HN.out]; exact s1) (by rw [HN.out]; exact n1) (by rw [HDD.out, HE6.out]) (by rw [HM.out]; exact m0) (by rw [HM.out]; exact m3)
                        rw [HN.out, HM.out, List.drop_drop] at hu2
                        obtain ⟨c, hc⟩ : ∃ c, 65536 + (n - 55296) * 1024 + m - 56320 = c := ⟨_, rfl⟩
                        rw [hc] at hu2
                        have HNX := Lib.hid (show UnAt s (j + 12) (acc ++ enc c.toNat) from HUN.out.step (by rw [HD3.out, hu2]))
                        have hen : Utf8.encode c = bs (enc c.toNat) := by rw [← bs_enc, show (c.toNat : Int) = c by omega]
                        have HX := Lib.hid (show bs acc ++ Utf8.encode (65536 + (n - 55296) * 1024 + m - 56320) = bs (acc ++ enc c.toNat) by rw [hc, hen, bs_append])
                        have hel : (enc c.toNat).length ≤ 4 := by have := Lib.encodeRuneZ_length_le (c.toNat : Int); simpa [enc, Lib.encodeRune] using this
                        have hes : (Utf8.encode (65536 + (n - 55296) * 1024 + m - 56320)).size ≤ 4 := by rw [hc, hen, bs_size]; exact hel
                        have HC := Lib.hid hc
                        clear hu2 hen m1 m2 hm4 hc
                        go_wp2
                        go_roundw
                        case rel => exact ⟨j + 12, acc ++ enc c.toNat, by omega, by go_num, by rw [HX.out], HNX.out, by simp; omega, HB2.out⟩
                        case measure => simp [intOf]; omega
                      · have d7 : (((s[j + 7]'n2).toNat : Int) == 117) = false := by rw [ha7]; exact ne_num e7
                        have HW := Lib.hid (OPEN.out (by rw [HE6.out, low_other (fun h => e7 h.2)]; exact .inl (by decide)))
                        clear ha6 ha7 e6 e7
                        go_wp2
                        go_ret2
                        exact ⟨⟨_, _, rfl, fun _ => by rw [HW.out]; exact ⟨rfl, fun h => by cases h⟩, fun h => absurd HV.out h⟩, HB2.out⟩
                    · have d6 : (((s[j + 6]'p6).toNat : Int) == 92) = false := by rw [ha6]; exact ne_num e6
                      have HW := Lib.hid (OPEN.out (by rw [HE6.out, low_other (fun h => e6 h.1)]; exact .inl (by decide)))
                      clear ha6 ha7 e6
                      go_wp2
                      go_ret2
                      exact ⟨⟨_, _, rfl, fun _ => by rw [HW.out]; exact ⟨rfl, fun h => by cases h⟩, fun h => absurd HV.out h⟩, HB2.out⟩
                  · have HW := Lib.hid (OPEN.out (by rw [low_short (by rw [List.length_drop, ← Lib.size_eq]; omega)]; exact .inl (by decide)))
                    go_wp2
                    go_ret2
                    exact ⟨⟨_, _, rfl, fun _ => by rw [HW.out]; exact ⟨rfl, fun h => by cases h⟩, fun h => absurd HV.out h⟩, HB2.out⟩
                · have HW := Lib.hid (OPEN.out (by rw [low_no n1]; exact .inl (by decide)))
                  go_wp2
                  go_ret2
                  exact ⟨⟨_, _, rfl, fun _ => by rw [HW.out]; exact ⟨rfl, fun h => by cases h⟩, fun h => absurd HV.out h⟩, HB2.out⟩
              · have hu2 := unL_four (t := s.data.toList.drop (j + 2)) (by rw [HN.out]; exact h0) (by rw [HN.out]; exact hsr)
                have HNX := Lib.hid (show UnAt s (j + 6) (acc ++ enc n.toNat) from HUN.out.step (by rw [HD3.out, hu2, HDD.out, HN.out]))
                have hen : Utf8.encode n = bs (enc n.toNat) := by rw [← bs_enc, show (n.toNat : Int) = n by omega]
                have HX := Lib.hid (show bs acc ++ Utf8.encode n = bs (acc ++ enc n.toNat) by rw [hen, bs_append])
                have hel : (enc n.toNat).length ≤ 4 := by have := Lib.encodeRuneZ_length_le (n.toNat : Int); simpa [enc, Lib.encodeRune] using this
                have hes : (Utf8.encode n).size ≤ 4 := by rw [hen, bs_size]; exact hel
                clear hu2 hen
                by_cases g1 : 55296 ≤ n
                · have g2 : ¬ n < 57344 := fun h => hsr ⟨g1, h⟩
                  clear hsr
                  go_wp2
                  go_roundw
                  case rel => exact ⟨j + 6, acc ++ enc n.toNat, by omega, by go_num, by rw [HX.out], HNX.out, by simp; omega, HB2.out⟩
                  case measure => simp [intOf]; omega
                · clear hsr
                  go_wp2
                  go_roundw
                  case rel => exact ⟨j + 6, acc ++ enc n.toNat, by omega, by go_num, by rw [HX.out], HNX.out, by simp; omega, HB2.out⟩
                  case measure => simp [intOf]; omega
            · have du : (((s[j + 1]'hend).toNat : Int) == 117) = false := by rw [he1]; exact ne_num hu
              have HW := Lib.hid (HUN.out.bad (HD2.out.trans rfl ▸ unL_wrong2 hesc hu : unL (s.data.toList.drop j) = (2, [])))
              clear hesc hu he1
              go_wp2
              go_ret2
              exact ⟨⟨_, _, rfl, fun _ => by rw [HW.out]; exact ⟨rfl, fun h => by cases h⟩, fun h => absurd HV.out h⟩, HB2.out⟩
          · have de : (bs (escF e1)).toList.isEmpty = false := by rw [bs_toList]; exact List.isEmpty_eq_false_iff.2 hesc
            have hl1 := esc_len e1
            have hl2 : (bs (escF e1)).size ≤ 1 := by rw [bs_size]; exact hl1
            have HN := Lib.hid (show UnAt s (j + 2) (acc ++ escF e1) from HUN.out.step (by rw [HD2.out, unL_esc hesc]))
            have HX := Lib.hid (bs_append acc (escF e1))
            clear hesc he1
            go_wp2
            go_roundw
            case rel => exact ⟨j + 2, acc ++ escF e1, by omega, by go_num, by rw [HX.out], HN.out, by simp; omega, HB2.out⟩
            case measure => simp [intOf]; omega
        · have hje : s.data.toList.drop (j + 1) = [] := List.drop_eq_nil_of_le (by rw [← Lib.size_eq]; omega)
          have HW := Lib.hid (HUN.out.bad (show unL (s.data.toList.drop j) = (2, []) by rw [HDR.out, hje]; exact unL_wrong1))
          clear hb hje
          go_wp2
          go_ret2
          exact ⟨⟨_, _, rfl, fun _ => by rw [HW.out]; exact ⟨rfl, fun h => by cases h⟩, fun h => absurd HV.out h⟩, HB.out⟩
      · have d : (((s[j]'hjl).toNat : Int) == 92) = false := by rw [hb]; exact ne_num h92
        have HN := Lib.hid (show UnAt s (j + 1) (acc ++ [b]) from HUN.out.step (by rw [HDR.out, unL_plain h92]; rfl))
        have HX := Lib.hid (show bs acc ++ s.extract j (j + 1) = bs (acc ++ [b]) by
          rw [← bs_append, ← bs_list (s.extract j (j + 1)), ByteArray.data_extract, Array.toList_extract, List.extract_eq_take_drop, HDR.out]
          simp)
        clear hb h92
        go_wp2
        go_roundw
        case rel => exact ⟨j + 1, acc ++ [b], by omega, by go_num, by rw [HX.out], HN.out, by simp; omega, HB.out⟩
        case measure => simp [intOf]; omega
    · obtain rfl : j = s.size := by omega
      have hfin : unL s.data.toList = (1, acc) := by
        have := HUN.out
        unfold UnAt at this
        rw [this, List.drop_eq_nil_of_le (by rw [← Lib.size_eq]; exact Nat.le_refl _), unL_nil]
        simp
      have HF := Lib.hid hfin; clear hfin
      go_wp2
      go_ret2
      exact ⟨⟨_, _, rfl, fun _ => by rw [HF.out]; exact ⟨rfl, fun _ => by simp [bs]⟩, fun h => absurd HV.out h⟩, HB.out⟩
end Go.Proofs.YtceepfnjdkfjnaaFmt
