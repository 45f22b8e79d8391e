/-
  parser.IsValidIdentifier tells whether a text is a name. Conditions: none.
-/
import Derived.Test.YtlgajopaokjjaaaGreatFmtIdent
import Derived.Lib.TrimAscii
namespace Go.Proofs.YtlgajopaokjjaaaGreatFmt
open Go.ChangeShapes Go.WideShapes Go.ChangeAt Go.RowKit Go.Joins
theorem toList_data (s : ByteArray) : s.toList = s.data.toList := ByteArray.toList_eq s
theorem dec_big {b : UInt8} {t : List UInt8} (h : 128 ≤ b.toNat) : 128 ≤ (Lib.decodeL (b :: t)).1 := by
  rw [Lib.decodeL_N]
  have hb : ((b :: t).getD 0 0).toNat = b.toNat := rfl
  rw [hb]
  unfold Lib.decodeN
  rw [if_neg (by omega)]
  split
  · split <;> (dsimp only; omega)
  · split
    · split <;> (dsimp only; omega)
    · split
      · split <;> (dsimp only; omega)
      · dsimp only; omega
theorem first_big {r : Int} (h : 128 ≤ r) : firstR r = false := by
  unfold firstR
  have h1 : decide (r ≤ 90) = false := decide_eq_false (by omega)
  have h2 : decide (r ≤ 122) = false := decide_eq_false (by omega)
  have h3 : (r == 95) = false := by rw [beq_eq_false_iff_ne]; omega
  simp [h1, h2, h3]
theorem rest_big {r : Int} (h : 128 ≤ r) : restR r = false := by
  unfold restR
  rw [first_big h]
  have h1 : decide (r ≤ 57) = false := decide_eq_false (by omega)
  simp [h1]
theorem letter_first (b : UInt8) : letterB b = firstR (b.toNat : Int) := by
  unfold letterB firstR
  have e : ∀ n : Nat, n < 256 → (((UInt8.ofNat n) == 95 || (97 ≤ (UInt8.ofNat n) && (UInt8.ofNat n) ≤ 122) || (65 ≤ (UInt8.ofNat n) && (UInt8.ofNat n) ≤ 90)) : Bool) = ((decide (65 ≤ (n : Int)) && decide ((n : Int) ≤ 90)) || (decide (97 ≤ (n : Int)) && decide ((n : Int) ≤ 122)) || ((n : Int) == 95)) := by decide +kernel
  have := e b.toNat b.toNat_lt
  simpa using this
theorem digit_rest (b : UInt8) : (letterB b || digitB b) = restR (b.toNat : Int) := by
  unfold restR
  rw [letter_first]
  congr 1
  unfold digitB
  have e : ∀ n : Nat, n < 256 → ((48 ≤ (UInt8.ofNat n) && (UInt8.ofNat n) ≤ 57) : Bool) = (decide (48 ≤ (n : Int)) && decide ((n : Int) ≤ 57)) := by decide +kernel
  have := e b.toNat b.toNat_lt
  simpa using this
/-- A name, but for the words that are none. -/
def headB (l : List UInt8) : Bool := match l with | [] => false | b :: r => letterB b && r.all (fun c => letterB c || digitB c)
theorem nameB_head (l : List UInt8) : nameB l = (headB l && !keyLit.contains l) := by
  unfold nameB
  rw [keysL_lit]
  cases l <;> rfl
set_option maxRecDepth 100000 in
set_option maxHeartbeats 1000000 in
theorem valid_any (s : ByteArray) (w : World) : Calls Tryz.prog 107 #[.string s] w fun e w' => e = .returned (.bool (nameB s.data.toList)) ∧ Below w.heap.size w w' := by
  by_cases h0 : s.size = 0
  · have hd : s.data.toList = [] := List.eq_nil_of_length_eq_zero (by rw [← Lib.size_eq]; exact h0)
    have hn : nameB s.data.toList = false := by rw [hd]; rfl
    rw [hn]
    have d : ((s.size : Int) == 0) = true := by simp [h0]
    clear hn hd
    go_enter Tryz.func107, Tryz.ntmps107
    go_wp2
    go_ret
    exact ⟨rfl, Below.refl _ _⟩
  have d : ((s.size : Int) == 0) = false := by rw [beq_eq_false_iff_ne]; omega
  have hpos : 0 < s.size := by omega
  clear h0
  go_enter Tryz.func107, Tryz.ntmps107
  go_wp2_with fail
  go_loopw [3] (fun _ wr => ∃ pos : Nat, pos ≤ s.size ∧ (pos = 0 ∨ headB s.data.toList = (s.data.toList.drop pos).all (fun c => letterB c || digitB c)) ∧ wr.heap[w.heap.size]? = some (.stringIter s pos) ∧ Below w.heap.size w wr) (fun _ wr => s.size - wr.iterPos w.heap.size)
  case atStart => exact ⟨0, Nat.zero_le _, .inl rfl, World.iter_heap w s 0, below_alloc1 w (.stringIter s 0)⟩
  case round =>
    obtain ⟨pos, hp0, hinv, hit, hbw⟩ := hrel
    have HBW := Lib.hid hbw
    have HI := Lib.hid hinv
    have hkl : w.heap.size < wr.heap.size := heap_lt' hit
    clear hbw hinv
    by_cases hp : pos < s.size
    · have hnx : ∀ ty, (Instr.next (.pointer (some ⟨w.heap.size, 0, none⟩)) true ty).run Tryz.prog wr = _ := fun ty => Lib.run_next_any_at wr w.heap.size s pos ty hit hp
      obtain ⟨b, r, hbr⟩ : ∃ b r, s.data.toList.drop pos = b :: r := by
        cases hl : s.data.toList.drop pos with
        | nil =>
          have := congrArg List.length hl
          rw [List.length_drop, ← Lib.size_eq] at this
          simp at this
          omega
        | cons b r => exact ⟨b, r, rfl⟩
      by_cases hb : b.toNat < 128
      · have hdec : Utf8.decode s pos = (b.toNat, 1) := by rw [← Lib.decodeL_drop, hbr, Lib.decodeL_ascii b r hb]
        rw [hdec] at hnx
        have HDR := Lib.hid (show s.data.toList.drop (pos + 1) = r by rw [← List.drop_drop, hbr]; rfl)
        have HIT2 := Lib.hid (Lib.iterAt_heap wr w.heap.size s pos (pos + 1) hit)
        have HB2 := Lib.hid (Lib.below_iterAt HBW.out (k := w.heap.size) (Nat.le_refl _) s (pos + 1))
        have HBR := Lib.hid hbr
        clear hdec hbr hb
        by_cases hz : pos = 0
        · subst hz
          have hh : headB s.data.toList = (letterB b && r.all (fun c => letterB c || digitB c)) := by
            have e : s.data.toList = b :: r := by simpa using HBR.out
            rw [e]; rfl
          rw [letter_first] at hh
          cases hf : firstR (b.toNat : Int) with
          | false =>
            rw [hf] at hh
            have HNB := Lib.hid (show nameB s.data.toList = false by rw [nameB_head, hh]; rfl)
            clear hh
            go_wp2_with fail
            go_at_call 110
            refine (firstId_any (b.toNat : Int) _).mono ?_
            rintro e w1 ⟨rfl, rfl⟩
            go_wp2
            go_ret
            exact ⟨by rw [HNB.out]; rfl, by simpa using HB2.out⟩
          | true =>
            rw [hf] at hh
            have HH := Lib.hid (show headB s.data.toList = (s.data.toList.drop (0 + 1)).all (fun c => letterB c || digitB c) by rw [hh, HDR.out]; rfl)
            clear hh
            go_wp2_with fail
            go_at_call 110
            refine (firstId_any (b.toNat : Int) _).mono ?_
            rintro e w1 ⟨rfl, rfl⟩
            go_wp2
            go_roundw
            case rel => exact ⟨0 + 1, by omega, .inr HH.out, HIT2.out, HB2.out⟩
            case measure => simp only [World.iterPos, HIT2.out, hit]; omega
        · have d1 : ((pos : Int) == 0) = false := by rw [beq_eq_false_iff_ne]; omega
          have hh : headB s.data.toList = (restR (b.toNat : Int) && r.all (fun c => letterB c || digitB c)) := by
            rcases HI.out with h | h
            · exact absurd h hz
            · rw [h, HBR.out, List.all_cons, digit_rest]
          clear hz
          cases hf : restR (b.toNat : Int) with
          | false =>
            rw [hf] at hh
            have HNB := Lib.hid (show nameB s.data.toList = false by rw [nameB_head, hh]; rfl)
            clear hh
            go_wp2_with fail
            go_at_call 111
            refine (restId_any (b.toNat : Int) _).mono ?_
            rintro e w1 ⟨rfl, rfl⟩
            go_wp2
            go_ret
            exact ⟨by rw [HNB.out]; rfl, by simpa using HB2.out⟩
          | true =>
            rw [hf] at hh
            have HH := Lib.hid (show headB s.data.toList = (s.data.toList.drop (pos + 1)).all (fun c => letterB c || digitB c) by rw [hh, HDR.out]; rfl)
            clear hh
            go_wp2_with fail
            go_at_call 111
            refine (restId_any (b.toNat : Int) _).mono ?_
            rintro e w1 ⟨rfl, rfl⟩
            go_wp2
            go_roundw
            case rel => exact ⟨pos + 1, by omega, .inr HH.out, HIT2.out, HB2.out⟩
            case measure => simp only [World.iterPos, HIT2.out, hit]; omega
      · obtain ⟨n, L, hdec⟩ : ∃ n L, Utf8.decode s pos = (n, L) := ⟨_, _, rfl⟩
        have hbig : 128 ≤ (n : Int) := by
          have h1 := dec_big (b := b) (t := r) (by omega)
          rw [← hbr, Lib.decodeL_drop, hdec] at h1
          have h2 : 128 ≤ n := h1
          omega
        rw [hdec] at hnx
        have HB2 := Lib.hid (Lib.below_iterAt HBW.out (k := w.heap.size) (Nat.le_refl _) s (pos + L))
        have hf1 := first_big hbig
        have hf2 := rest_big hbig
        have hb1 : restR (b.toNat : Int) = false := rest_big (by omega)
        have hb2 : firstR (b.toNat : Int) = false := first_big (by omega)
        have HNB := Lib.hid (show nameB s.data.toList = false by
          rw [nameB_head]
          have : headB s.data.toList = false := by
            by_cases hz : pos = 0
            · subst hz
              have e : s.data.toList = b :: r := by simpa using hbr
              rw [e]
              show (letterB b && _) = false
              rw [letter_first, hb2]; rfl
            · rcases HI.out with h | h
              · exact absurd h hz
              · rw [h, hbr, List.all_cons, digit_rest, hb1]; rfl
          rw [this]; rfl)
        clear hb1 hb2 hbr hb hdec hbig
        by_cases hz : pos = 0
        · subst hz
          go_wp2_with fail
          go_at_call 110
          refine (firstId_any (n : Int) _).mono ?_
          rintro e w1 ⟨rfl, rfl⟩
          go_wp2
          go_ret
          exact ⟨by rw [HNB.out]; rfl, by simpa using HB2.out⟩
        · have d1 : ((pos : Int) == 0) = false := by rw [beq_eq_false_iff_ne]; omega
          clear hz
          go_wp2_with fail
          go_at_call 111
          refine (restId_any (n : Int) _).mono ?_
          rintro e w1 ⟨rfl, rfl⟩
          go_wp2
          go_ret
          exact ⟨by rw [HNB.out]; rfl, by simpa using HB2.out⟩
    · have hpe : pos = s.size := by omega
      subst hpe
      have hh : headB s.data.toList = true := by
        rcases HI.out with h | h
        · omega
        · rw [h, List.drop_eq_nil_of_le (by rw [← Lib.size_eq]; exact Nat.le_refl _)]; rfl
      have HNB := Lib.hid (show nameB s.data.toList = !keyLit.contains s.toList by rw [nameB_head, hh, toList_data]; rfl)
      clear hh
      have hnx : ∀ ty, (Instr.next (.pointer (some ⟨w.heap.size, 0, none⟩)) true ty).run Tryz.prog wr = _ := fun ty => Lib.run_next_end_at wr w.heap.size s s.size ty hit (Nat.lt_irrefl _)
      go_wp2_with fail
      go_at_call 112
      refine (token_any s _).mono ?_
      rintro e w1 ⟨⟨v, rfl, hv⟩, rfl⟩
      go_wp2
      go_ret
      exact ⟨by rw [HNB.out]; simp, HBW.out⟩
end Go.Proofs.YtlgajopaokjjaaaGreatFmt
