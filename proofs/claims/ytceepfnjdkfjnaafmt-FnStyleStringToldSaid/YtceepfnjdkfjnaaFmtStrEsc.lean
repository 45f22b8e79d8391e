/-
  parser.StringEscape at texts of whole characters. Conditions: the text's length.
-/
import Derived.Test.YtceepfnjdkfjnaaFmtStrFmt
import Derived.WalkSpells
import Derived.Stop.JoinedTold
namespace Go.Proofs.YtceepfnjdkfjnaaFmt
open Go.ChangeShapes Go.WideShapes Go.ChangeAt Go.RowKit Go.Joins Go.Extern.Stop Go.Stop Go.Extern

attribute [local go_sem] callSprintf fmtGuard fmtX fmtXp opX
/-- What holds at the head of a round. -/
structure EAt (single : Bool) (cs : List Nat) (s : ByteArray) (w : World) (j : Nat) (acc : List UInt8) (wr : World) : Prop where
  le : j ≤ s.size
  buf : Lib.IsBuffer 175 5 w.heap.size w.heap.size (Lib.byteCells acc) wr
  bel : Below w.heap.size w wr
  cut : ∃ c1 c2, cs = c1 ++ c2 ∧ s.data.toList.drop j = c2.flatMap enc ∧ acc = escL single c1
  len : acc.length ≤ 6 * j
theorem esc_len6 (single : Bool) (r : Nat) : (escB single r).length ≤ 6 * (enc r).length ∧ (escB single r).length ≤ 6 := by
  have h1 := List.length_pos_iff.2 (enc_ne r)
  have h4 : (enc r).length ≤ 4 := by have := Lib.encodeRuneZ_length_le (r : Int); simpa [enc, Lib.encodeRune] using this
  unfold escB
  repeat' split
  all_goals first
    | (simp [hex4]; omega)
    | omega
set_option maxHeartbeats 8000000 in
set_option maxRecDepth 1000000 in
theorem escape_any (F : Interp) (single : Bool) (cs : List Nat) (hcs : ∀ r ∈ cs, Sc r) (s : ByteArray) (hs : s.size ≤ 400) (hl : s.data.toList = cs.flatMap enc) (w : World) (hF : F.told.answers w.tape) (HT0 : Lib.Utf8Tabs 0 1 w) :
    Calls Tryf.prog 27 #[.string s, .bool single] w fun e w' => e = .returned (.string (bs (escL single cs))) ∧ Below w.heap.size w w' := by
  have HL := Lib.hid hl; have HCS := Lib.hid hcs; clear hl hcs
  have HT := Lib.hid HT0; have HFF := Lib.hid hF; clear HT0 hF
  go_enter Tryf.func27, Tryf.ntmps27
  go_wp2
  go_loopw [6] (fun i wr => ∃ (j : Nat) (acc : List UInt8), i = .int .i64 j ∧ EAt single cs s w j acc wr) (fun i _ => s.size - (intOf i).toNat)
  case atStart => exact ⟨0, [], rfl, Nat.zero_le _, Lib.fresh_isBuffer 175 5 w, below_alloc1 _ _, ⟨[], cs, rfl, by simpa using HL.out, rfl⟩, Nat.zero_le _⟩
  case round =>
    obtain ⟨j, acc, rfl, hat⟩ := hrel
    have HA := Lib.hid hat; clear hat
    have hj := HA.out.le
    have hsz := HA.out.bel.size
    have hac := HA.out.len
    obtain ⟨c1, c2, hc, hd, hacc⟩ := HA.out.cut
    by_cases hjl : j < s.size
    · have hne : s.data.toList.drop j ≠ [] := drop_ne hjl
      obtain ⟨r, c3, rfl⟩ : ∃ r c3, c2 = r :: c3 := by
        cases c2 with
        | nil => exact absurd hd hne
        | cons r c3 => exact ⟨r, c3, rfl⟩
      have hs1 : Sc r := HCS.out r (by rw [hc]; simp)
      have e0 : s.data.toList.drop j = enc r ++ c3.flatMap enc := by rw [hd]; simp
      have HTr := Lib.hid (Utf8Tabs_below HT.out (HA.out.bel.mono (Nat.le_refl _)))
      have HDG := Lib.hid (dec_at hs1 e0)
      have hlen : j + (enc r).length ≤ s.size := by
        have := congrArg List.length e0
        rw [List.length_drop, ← Lib.size_eq, List.length_append] at this
        omega
      have hrm : r ≤ 1114111 := hs1.1
      have hle := List.length_pos_iff.2 (enc_ne r)
      have hdt : s.data.toList.drop (j + (enc r).length) = c3.flatMap enc := by rw [← List.drop_drop, e0, List.drop_left]
      have HNX := Lib.hid (fun (w2 : World) (hbuf : Lib.IsBuffer 175 5 w.heap.size w.heap.size (Lib.byteCells (acc ++ escB single r)) w2) (hb : Below w.heap.size w w2) => (show EAt single cs s w (j + (enc r).length) (acc ++ escB single r) w2 from
        ⟨hlen, hbuf, hb, ⟨c1 ++ [r], c3, by simpa using hc, hdt, by rw [hacc]; simp [escL]⟩, by have := esc_len6 single r; rw [List.length_append]; omega⟩))
      obtain ⟨L, hL⟩ : ∃ L, (enc r).length = L := ⟨_, rfl⟩
      rw [hL] at HDG hlen HNX hle
      clear hdt e0 hs1 hL hne hd hc hacc
      go_wp2_with fail
      refine (Tryf.utf8_DecodeRuneInString (s.extract j s.size) wr HTr.out).mono ?_
      rintro e W1 ⟨he, hb1⟩
      rw [HDG.out] at he
      have HB1 := Lib.hid (HA.out.bel.trans (hb1.mono hsz))
      have HI1 := Lib.hid (isbuf_below HA.out.buf hb1)
      clear hb1
      have hsz1 := HB1.out.size
      by_cases h34 : r = 34
      · subst h34
        cases single
        · have he' : e = .returned (.tuple #[.int .i32 34, .int .i64 L]) := he
          subst he'
          clear he
          go_wp2_with fail
          refine (Tryf.Buffer_WriteRune_k w.heap.size w.heap.size _ 92 (by omega) (by omega) W1 HI1.out hsz1 (Lib.byteCells_one _) (by rw [Lib.byteCells_length]; (try simp only [List.length_append]); (try rw [show (enc 92).length = 1 from rfl]); omega)).mono ?_
          rintro e W2 ⟨rfl, h2, b2, -⟩
          have HI2 := Lib.hid (show Lib.IsBuffer 175 5 w.heap.size w.heap.size (Lib.byteCells (acc ++ enc 92)) W2 by have := cells_snoc (acc) 92; rw [← this]; exact h2)
          have HB2 := Lib.hid (HB1.out.trans b2)
          clear h2 b2
          have hsz2 := HB2.out.size
          go_wp2_with fail
          refine (Tryf.Buffer_WriteRune_k w.heap.size w.heap.size _ 34 (by omega) (by omega) W2 HI2.out hsz2 (Lib.byteCells_one _) (by rw [Lib.byteCells_length]; (try simp only [List.length_append]); (try rw [show (enc 92).length = 1 from rfl]); omega)).mono ?_
          rintro e W3 ⟨rfl, h3, b3, -⟩
          have HI3 := Lib.hid (show Lib.IsBuffer 175 5 w.heap.size w.heap.size (Lib.byteCells (acc ++ enc 92 ++ enc 34)) W3 by have := cells_snoc (acc ++ enc 92) 34; rw [← this]; exact h3)
          have HB3 := Lib.hid (HB2.out.trans b3)
          clear h3 b3
          have hsz3 := HB3.out.size
          have HX := Lib.hid (HNX.out W3 (by
            have := HI3.out
            rw [show acc ++ enc 92 ++ enc 34 = acc ++ escB false 34 by simp only [List.append_assoc]; rfl] at this; exact this) HB3.out)
          go_wp2
          go_roundw
          case rel => exact ⟨j + L, _, by go_num, HX.out⟩
          case measure => simp [intOf]; omega
        · have he' : e = .returned (.tuple #[.int .i32 34, .int .i64 L]) := he
          subst he'
          clear he
          go_wp2_with fail
          refine (Tryf.Buffer_WriteRune_k w.heap.size w.heap.size _ 34 (by omega) (by omega) W1 HI1.out hsz1 (Lib.byteCells_one _) (by rw [Lib.byteCells_length]; (try simp only [List.length_append]); (try rw [show (enc 92).length = 1 from rfl]); omega)).mono ?_
          rintro e W2 ⟨rfl, h2, b2, -⟩
          have HI2 := Lib.hid (show Lib.IsBuffer 175 5 w.heap.size w.heap.size (Lib.byteCells (acc ++ enc 34)) W2 by have := cells_snoc (acc) 34; rw [← this]; exact h2)
          have HB2 := Lib.hid (HB1.out.trans b2)
          clear h2 b2
          have hsz2 := HB2.out.size
          have HX := Lib.hid (HNX.out W2 (by
            have := HI2.out
            exact this) HB2.out)
          go_wp2
          go_roundw
          case rel => exact ⟨j + L, _, by go_num, HX.out⟩
          case measure => simp [intOf]; omega
      by_cases h39 : r = 39
      · subst h39
        cases single
        · have he' : e = .returned (.tuple #[.int .i32 39, .int .i64 L]) := he
          subst he'
          clear he
          go_wp2_with fail
          refine (Tryf.Buffer_WriteRune_k w.heap.size w.heap.size _ 39 (by omega) (by omega) W1 HI1.out hsz1 (Lib.byteCells_one _) (by rw [Lib.byteCells_length]; (try simp only [List.length_append]); (try rw [show (enc 92).length = 1 from rfl]); omega)).mono ?_
          rintro e W2 ⟨rfl, h2, b2, -⟩
          have HI2 := Lib.hid (show Lib.IsBuffer 175 5 w.heap.size w.heap.size (Lib.byteCells (acc ++ enc 39)) W2 by have := cells_snoc (acc) 39; rw [← this]; exact h2)
          have HB2 := Lib.hid (HB1.out.trans b2)
          clear h2 b2
          have hsz2 := HB2.out.size
          have HX := Lib.hid (HNX.out W2 (by
            have := HI2.out
            exact this) HB2.out)
          go_wp2
          go_roundw
          case rel => exact ⟨j + L, _, by go_num, HX.out⟩
          case measure => simp [intOf]; omega
        · have he' : e = .returned (.tuple #[.int .i32 39, .int .i64 L]) := he
          subst he'
          clear he
          go_wp2_with fail
          refine (Tryf.Buffer_WriteRune_k w.heap.size w.heap.size _ 92 (by omega) (by omega) W1 HI1.out hsz1 (Lib.byteCells_one _) (by rw [Lib.byteCells_length]; (try simp only [List.length_append]); (try rw [show (enc 92).length = 1 from rfl]); omega)).mono ?_
          rintro e W2 ⟨rfl, h2, b2, -⟩
          have HI2 := Lib.hid (show Lib.IsBuffer 175 5 w.heap.size w.heap.size (Lib.byteCells (acc ++ enc 92)) W2 by have := cells_snoc (acc) 92; rw [← this]; exact h2)
          have HB2 := Lib.hid (HB1.out.trans b2)
          clear h2 b2
          have hsz2 := HB2.out.size
          go_wp2_with fail
          refine (Tryf.Buffer_WriteRune_k w.heap.size w.heap.size _ 39 (by omega) (by omega) W2 HI2.out hsz2 (Lib.byteCells_one _) (by rw [Lib.byteCells_length]; (try simp only [List.length_append]); (try rw [show (enc 92).length = 1 from rfl]); omega)).mono ?_
          rintro e W3 ⟨rfl, h3, b3, -⟩
          have HI3 := Lib.hid (show Lib.IsBuffer 175 5 w.heap.size w.heap.size (Lib.byteCells (acc ++ enc 92 ++ enc 39)) W3 by have := cells_snoc (acc ++ enc 92) 39; rw [← this]; exact h3)
          have HB3 := Lib.hid (HB2.out.trans b3)
          clear h3 b3
          have hsz3 := HB3.out.size
          have HX := Lib.hid (HNX.out W3 (by
            have := HI3.out
            rw [show acc ++ enc 92 ++ enc 39 = acc ++ escB true 39 by simp only [List.append_assoc]; rfl] at this; exact this) HB3.out)
          go_wp2
          go_roundw
          case rel => exact ⟨j + L, _, by go_num, HX.out⟩
          case measure => simp [intOf]; omega
      by_cases h92 : r = 92
      · subst h92
        have he' : e = .returned (.tuple #[.int .i32 92, .int .i64 L]) := he
        subst he'
        clear he
        go_wp2_with fail
        refine (Tryf.Buffer_WriteRune_k w.heap.size w.heap.size _ 92 (by omega) (by omega) W1 HI1.out hsz1 (Lib.byteCells_one _) (by rw [Lib.byteCells_length]; (try simp only [List.length_append]); (try rw [show (enc 92).length = 1 from rfl]); omega)).mono ?_
        rintro e W2 ⟨rfl, h2, b2, -⟩
        have HI2 := Lib.hid (show Lib.IsBuffer 175 5 w.heap.size w.heap.size (Lib.byteCells (acc ++ enc 92)) W2 by have := cells_snoc (acc) 92; rw [← this]; exact h2)
        have HB2 := Lib.hid (HB1.out.trans b2)
        clear h2 b2
        have hsz2 := HB2.out.size
        go_wp2_with fail
        refine (Tryf.Buffer_WriteRune_k w.heap.size w.heap.size _ 92 (by omega) (by omega) W2 HI2.out hsz2 (Lib.byteCells_one _) (by rw [Lib.byteCells_length]; (try simp only [List.length_append]); (try rw [show (enc 92).length = 1 from rfl]); omega)).mono ?_
        rintro e W3 ⟨rfl, h3, b3, -⟩
        have HI3 := Lib.hid (show Lib.IsBuffer 175 5 w.heap.size w.heap.size (Lib.byteCells (acc ++ enc 92 ++ enc 92)) W3 by have := cells_snoc (acc ++ enc 92) 92; rw [← this]; exact h3)
        have HB3 := Lib.hid (HB2.out.trans b3)
        clear h3 b3
        have hsz3 := HB3.out.size
        have HX := Lib.hid (HNX.out W3 (by
          have := HI3.out
          rw [show acc ++ enc 92 ++ enc 92 = acc ++ escB single 92 by simp only [List.append_assoc]; rfl] at this; exact this) HB3.out)
        go_wp2
        go_roundw
        case rel => exact ⟨j + L, _, by go_num, HX.out⟩
        case measure => simp [intOf]; omega
      by_cases h8 : r = 8
      · subst h8
        have he' : e = .returned (.tuple #[.int .i32 8, .int .i64 L]) := he
        subst he'
        clear he
        go_wp2_with fail
        refine (Tryf.Buffer_WriteRune_k w.heap.size w.heap.size _ 92 (by omega) (by omega) W1 HI1.out hsz1 (Lib.byteCells_one _) (by rw [Lib.byteCells_length]; (try simp only [List.length_append]); (try rw [show (enc 92).length = 1 from rfl]); omega)).mono ?_
        rintro e W2 ⟨rfl, h2, b2, -⟩
        have HI2 := Lib.hid (show Lib.IsBuffer 175 5 w.heap.size w.heap.size (Lib.byteCells (acc ++ enc 92)) W2 by have := cells_snoc (acc) 92; rw [← this]; exact h2)
        have HB2 := Lib.hid (HB1.out.trans b2)
        clear h2 b2
        have hsz2 := HB2.out.size
        go_wp2_with fail
        refine (Tryf.Buffer_WriteRune_k w.heap.size w.heap.size _ 98 (by omega) (by omega) W2 HI2.out hsz2 (Lib.byteCells_one _) (by rw [Lib.byteCells_length]; (try simp only [List.length_append]); (try rw [show (enc 92).length = 1 from rfl]); omega)).mono ?_
        rintro e W3 ⟨rfl, h3, b3, -⟩
        have HI3 := Lib.hid (show Lib.IsBuffer 175 5 w.heap.size w.heap.size (Lib.byteCells (acc ++ enc 92 ++ enc 98)) W3 by have := cells_snoc (acc ++ enc 92) 98; rw [← this]; exact h3)
        have HB3 := Lib.hid (HB2.out.trans b3)
        clear h3 b3
        have hsz3 := HB3.out.size
        have HX := Lib.hid (HNX.out W3 (by
          have := HI3.out
          rw [show acc ++ enc 92 ++ enc 98 = acc ++ escB single 8 by simp only [List.append_assoc]; rfl] at this; exact this) HB3.out)
        go_wp2
        go_roundw
        case rel => exact ⟨j + L, _, by go_num, HX.out⟩
        case measure => simp [intOf]; omega
      by_cases h12 : r = 12
      · subst h12
        have he' : e = .returned (.tuple #[.int .i32 12, .int .i64 L]) := he
        subst he'
        clear he
        go_wp2_with fail
        refine (Tryf.Buffer_WriteRune_k w.heap.size w.heap.size _ 92 (by omega) (by omega) W1 HI1.out hsz1 (Lib.byteCells_one _) (by rw [Lib.byteCells_length]; (try simp only [List.length_append]); (try rw [show (enc 92).length = 1 from rfl]); omega)).mono ?_
        rintro e W2 ⟨rfl, h2, b2, -⟩
        have HI2 := Lib.hid (show Lib.IsBuffer 175 5 w.heap.size w.heap.size (Lib.byteCells (acc ++ enc 92)) W2 by have := cells_snoc (acc) 92; rw [← this]; exact h2)
        have HB2 := Lib.hid (HB1.out.trans b2)
        clear h2 b2
        have hsz2 := HB2.out.size
        go_wp2_with fail
        refine (Tryf.Buffer_WriteRune_k w.heap.size w.heap.size _ 102 (by omega) (by omega) W2 HI2.out hsz2 (Lib.byteCells_one _) (by rw [Lib.byteCells_length]; (try simp only [List.length_append]); (try rw [show (enc 92).length = 1 from rfl]); omega)).mono ?_
        rintro e W3 ⟨rfl, h3, b3, -⟩
        have HI3 := Lib.hid (show Lib.IsBuffer 175 5 w.heap.size w.heap.size (Lib.byteCells (acc ++ enc 92 ++ enc 102)) W3 by have := cells_snoc (acc ++ enc 92) 102; rw [← this]; exact h3)
        have HB3 := Lib.hid (HB2.out.trans b3)
        clear h3 b3
        have hsz3 := HB3.out.size
        have HX := Lib.hid (HNX.out W3 (by
          have := HI3.out
          rw [show acc ++ enc 92 ++ enc 102 = acc ++ escB single 12 by simp only [List.append_assoc]; rfl] at this; exact this) HB3.out)
        go_wp2
        go_roundw
        case rel => exact ⟨j + L, _, by go_num, HX.out⟩
        case measure => simp [intOf]; omega
      by_cases h10 : r = 10
      · subst h10
        have he' : e = .returned (.tuple #[.int .i32 10, .int .i64 L]) := he
        subst he'
        clear he
        go_wp2_with fail
        refine (Tryf.Buffer_WriteRune_k w.heap.size w.heap.size _ 92 (by omega) (by omega) W1 HI1.out hsz1 (Lib.byteCells_one _) (by rw [Lib.byteCells_length]; (try simp only [List.length_append]); (try rw [show (enc 92).length = 1 from rfl]); omega)).mono ?_
        rintro e W2 ⟨rfl, h2, b2, -⟩
        have HI2 := Lib.hid (show Lib.IsBuffer 175 5 w.heap.size w.heap.size (Lib.byteCells (acc ++ enc 92)) W2 by have := cells_snoc (acc) 92; rw [← this]; exact h2)
        have HB2 := Lib.hid (HB1.out.trans b2)
        clear h2 b2
        have hsz2 := HB2.out.size
        go_wp2_with fail
        refine (Tryf.Buffer_WriteRune_k w.heap.size w.heap.size _ 110 (by omega) (by omega) W2 HI2.out hsz2 (Lib.byteCells_one _) (by rw [Lib.byteCells_length]; (try simp only [List.length_append]); (try rw [show (enc 92).length = 1 from rfl]); omega)).mono ?_
        rintro e W3 ⟨rfl, h3, b3, -⟩
        have HI3 := Lib.hid (show Lib.IsBuffer 175 5 w.heap.size w.heap.size (Lib.byteCells (acc ++ enc 92 ++ enc 110)) W3 by have := cells_snoc (acc ++ enc 92) 110; rw [← this]; exact h3)
        have HB3 := Lib.hid (HB2.out.trans b3)
        clear h3 b3
        have hsz3 := HB3.out.size
        have HX := Lib.hid (HNX.out W3 (by
          have := HI3.out
          rw [show acc ++ enc 92 ++ enc 110 = acc ++ escB single 10 by simp only [List.append_assoc]; rfl] at this; exact this) HB3.out)
        go_wp2
        go_roundw
        case rel => exact ⟨j + L, _, by go_num, HX.out⟩
        case measure => simp [intOf]; omega
      by_cases h13 : r = 13
      · subst h13
        have he' : e = .returned (.tuple #[.int .i32 13, .int .i64 L]) := he
        subst he'
        clear he
        go_wp2_with fail
        refine (Tryf.Buffer_WriteRune_k w.heap.size w.heap.size _ 92 (by omega) (by omega) W1 HI1.out hsz1 (Lib.byteCells_one _) (by rw [Lib.byteCells_length]; (try simp only [List.length_append]); (try rw [show (enc 92).length = 1 from rfl]); omega)).mono ?_
        rintro e W2 ⟨rfl, h2, b2, -⟩
        have HI2 := Lib.hid (show Lib.IsBuffer 175 5 w.heap.size w.heap.size (Lib.byteCells (acc ++ enc 92)) W2 by have := cells_snoc (acc) 92; rw [← this]; exact h2)
        have HB2 := Lib.hid (HB1.out.trans b2)
        clear h2 b2
        have hsz2 := HB2.out.size
        go_wp2_with fail
        refine (Tryf.Buffer_WriteRune_k w.heap.size w.heap.size _ 114 (by omega) (by omega) W2 HI2.out hsz2 (Lib.byteCells_one _) (by rw [Lib.byteCells_length]; (try simp only [List.length_append]); (try rw [show (enc 92).length = 1 from rfl]); omega)).mono ?_
        rintro e W3 ⟨rfl, h3, b3, -⟩
        have HI3 := Lib.hid (show Lib.IsBuffer 175 5 w.heap.size w.heap.size (Lib.byteCells (acc ++ enc 92 ++ enc 114)) W3 by have := cells_snoc (acc ++ enc 92) 114; rw [← this]; exact h3)
        have HB3 := Lib.hid (HB2.out.trans b3)
        clear h3 b3
        have hsz3 := HB3.out.size
        have HX := Lib.hid (HNX.out W3 (by
          have := HI3.out
          rw [show acc ++ enc 92 ++ enc 114 = acc ++ escB single 13 by simp only [List.append_assoc]; rfl] at this; exact this) HB3.out)
        go_wp2
        go_roundw
        case rel => exact ⟨j + L, _, by go_num, HX.out⟩
        case measure => simp [intOf]; omega
      by_cases h9 : r = 9
      · subst h9
        have he' : e = .returned (.tuple #[.int .i32 9, .int .i64 L]) := he
        subst he'
        clear he
        go_wp2_with fail
        refine (Tryf.Buffer_WriteRune_k w.heap.size w.heap.size _ 92 (by omega) (by omega) W1 HI1.out hsz1 (Lib.byteCells_one _) (by rw [Lib.byteCells_length]; (try simp only [List.length_append]); (try rw [show (enc 92).length = 1 from rfl]); omega)).mono ?_
        rintro e W2 ⟨rfl, h2, b2, -⟩
        have HI2 := Lib.hid (show Lib.IsBuffer 175 5 w.heap.size w.heap.size (Lib.byteCells (acc ++ enc 92)) W2 by have := cells_snoc (acc) 92; rw [← this]; exact h2)
        have HB2 := Lib.hid (HB1.out.trans b2)
        clear h2 b2
        have hsz2 := HB2.out.size
        go_wp2_with fail
        refine (Tryf.Buffer_WriteRune_k w.heap.size w.heap.size _ 116 (by omega) (by omega) W2 HI2.out hsz2 (Lib.byteCells_one _) (by rw [Lib.byteCells_length]; (try simp only [List.length_append]); (try rw [show (enc 92).length = 1 from rfl]); omega)).mono ?_
        rintro e W3 ⟨rfl, h3, b3, -⟩
        have HI3 := Lib.hid (show Lib.IsBuffer 175 5 w.heap.size w.heap.size (Lib.byteCells (acc ++ enc 92 ++ enc 116)) W3 by have := cells_snoc (acc ++ enc 92) 116; rw [← this]; exact h3)
        have HB3 := Lib.hid (HB2.out.trans b3)
        clear h3 b3
        have hsz3 := HB3.out.size
        have HX := Lib.hid (HNX.out W3 (by
          have := HI3.out
          rw [show acc ++ enc 92 ++ enc 116 = acc ++ escB single 9 by simp only [List.append_assoc]; rfl] at this; exact this) HB3.out)
        go_wp2
        go_roundw
        case rel => exact ⟨j + L, _, by go_num, HX.out⟩
        case measure => simp [intOf]; omega
      by_cases h0 : r = 0
      · subst h0
        have he' : e = .returned (.tuple #[.int .i32 0, .int .i64 L]) := he
        subst he'
        clear he
        go_wp2_with fail
        refine (Tryf.Buffer_WriteString_k w.heap.size w.heap.size _ _ W1 HI1.out hsz1 (Lib.byteCells_one _) (by rw [Lib.byteCells_length]; show acc.length + 6 ≤ _; omega)).mono ?_
        rintro e W2 ⟨rfl, h2, b2, -⟩
        have HI2 := Lib.hid (show Lib.IsBuffer 175 5 w.heap.size w.heap.size (Lib.byteCells (acc ++ [92, 117, 48, 48, 48, 48])) W2 by rw [Lib.byteCells_append]; exact h2)
        have HB2 := Lib.hid (HB1.out.trans b2)
        clear h2 b2
        have HX := Lib.hid (HNX.out W2 (by
          have := HI2.out
          exact this) HB2.out)
        go_wp2
        go_roundw
        case rel => exact ⟨j + L, _, by go_num, HX.out⟩
        case measure => simp [intOf]; omega
      subst he
      have d34 : ((r : Int) == 34) = false := by rw [beq_eq_false_iff_ne]; omega
      have d39 : ((r : Int) == 39) = false := by rw [beq_eq_false_iff_ne]; omega
      have d92 : ((r : Int) == 92) = false := by rw [beq_eq_false_iff_ne]; omega
      have d8 : ((r : Int) == 8) = false := by rw [beq_eq_false_iff_ne]; omega
      have d12 : ((r : Int) == 12) = false := by rw [beq_eq_false_iff_ne]; omega
      have d10 : ((r : Int) == 10) = false := by rw [beq_eq_false_iff_ne]; omega
      have d13 : ((r : Int) == 13) = false := by rw [beq_eq_false_iff_ne]; omega
      have d9 : ((r : Int) == 9) = false := by rw [beq_eq_false_iff_ne]; omega
      have d0 : ((r : Int) == 0) = false := by rw [beq_eq_false_iff_ne]; omega
      by_cases hctl : r < 32 ∨ (127 ≤ r ∧ r ≤ 159)
      · have r160 : r < 160 := by omega
        have HCTL := Lib.hid hctl
        by_cases k1 : r < 32
        · have k2 : (r : Int) < 32 := by omega
          clear hctl
          go_wp2_with fail
          refine (Tryf.Buffer_WriteRune_k w.heap.size w.heap.size _ 92 (by omega) (by omega) W1 HI1.out hsz1 (Lib.byteCells_one _) (by rw [Lib.byteCells_length]; (try simp only [List.length_append]); (try rw [show (enc 92).length = 1 from rfl]); omega)).mono ?_
          rintro e W2 ⟨rfl, h2, b2, -⟩
          have HI2 := Lib.hid (show Lib.IsBuffer 175 5 w.heap.size w.heap.size (Lib.byteCells (acc ++ enc 92)) W2 by have := cells_snoc (acc) 92; rw [← this]; exact h2)
          have HB2 := Lib.hid (HB1.out.trans b2)
          clear h2 b2
          have hsz2 := HB2.out.size
          go_wp2_with fail
          refine (Tryf.Buffer_WriteRune_k w.heap.size w.heap.size _ 117 (by omega) (by omega) W2 HI2.out hsz2 (Lib.byteCells_one _) (by rw [Lib.byteCells_length]; (try simp only [List.length_append]); (try rw [show (enc 92).length = 1 from rfl]); omega)).mono ?_
          rintro e W3 ⟨rfl, h3, b3, -⟩
          have HI3 := Lib.hid (show Lib.IsBuffer 175 5 w.heap.size w.heap.size (Lib.byteCells (acc ++ enc 92 ++ enc 117)) W3 by have := cells_snoc (acc ++ enc 92) 117; rw [← this]; exact h3)
          have HB3 := Lib.hid (HB2.out.trans b3)
          clear h3 b3
          have hsz3 := HB3.out.size
          have hF3 := answers_open (show F.told.answers W3.tape by rw [HB3.out.tape]; exact HFF.out)
          obtain ⟨cap, W5, hcv, hcell, hb5⟩ := four_bytes F r160 (W3.alloc (.cells #[.iface 3 (.int .i64 (r : Int))] 20)).drew
          have HCE := Lib.hid hcell
          have HB35 := Lib.hid (((below_alloc1 W3 (.cells #[.iface 3 (.int .i64 (r : Int))] 20)).drew).trans (hb5.mono (by simp)))
          have HI5 := Lib.hid (isbuf_below HI3.out HB35.out)
          have HB5 := Lib.hid (HB3.out.trans (HB35.out.mono hsz3))
          have hsz5 := HB5.out.size
          have hbw := Lib.hid (show w.heap.size < W3.heap.size from HI3.out.lt)
          have hsz6 : (W3.alloc (.cells #[.iface 3 (.int .i64 (r : Int))] 20)).drew.heap.size = W3.heap.size + 1 := by simp
          rw [hsz6] at hcv HCE
          have HE := Lib.hid (show escB single r = [92, 117] ++ hex4 r by unfold escB; rw [if_neg h34, if_neg h39, if_neg h92, if_neg h8, if_neg h12, if_neg h10, if_neg h13, if_neg h9, if_pos HCTL.out]; rfl)
          clear hcell hb5 hsz6
          go_wp2_with fail
          refine (Tryf.Buffer_Write_any w.heap.size w.heap.size _ (Lib.byteCells (hex4 r)) ⟨W3.heap.size + 1, 0, none⟩ 4 cap W5 HI5.out hsz5 (Lib.byteCells_one _) (by rw [Lib.byteCells_length]; rfl) (by have := hbw.out; show W3.heap.size + 1 ≠ w.heap.size; omega) HCE.out (Lib.byteCells_one _) (by rw [Lib.byteCells_length]; simp only [List.length_append]; rw [show (enc 92).length = 1 from rfl, show (enc 117).length = 1 from rfl]; omega)).mono ?_
          rintro e W6 ⟨rfl, h6, b6, -⟩
          have HI6 := Lib.hid (show Lib.IsBuffer 175 5 w.heap.size w.heap.size (Lib.byteCells (acc ++ enc 92 ++ enc 117 ++ hex4 r)) W6 by rw [Lib.byteCells_append]; exact h6)
          have HB6 := Lib.hid (HB5.out.trans b6)
          clear h6 b6 hcv hF3
          have HX := Lib.hid (HNX.out W6 (by
            have := HI6.out
            rw [show acc ++ enc 92 ++ enc 117 ++ hex4 r = acc ++ escB single r by rw [HE.out]; simp only [List.append_assoc]; rfl] at this; exact this) HB6.out)
          go_wp2
          go_roundw
          case rel => exact ⟨j + L, _, by go_num, HX.out⟩
          case measure => simp [intOf]; omega
        · have k2 : ¬ (r : Int) < 32 := by omega
          have k3 : (127 : Int) ≤ (r : Int) := by omega
          have k4 : (r : Int) ≤ 159 := by omega
          clear hctl
          go_wp2_with fail
          refine (Tryf.Buffer_WriteRune_k w.heap.size w.heap.size _ 92 (by omega) (by omega) W1 HI1.out hsz1 (Lib.byteCells_one _) (by rw [Lib.byteCells_length]; (try simp only [List.length_append]); (try rw [show (enc 92).length = 1 from rfl]); omega)).mono ?_
          rintro e W2 ⟨rfl, h2, b2, -⟩
          have HI2 := Lib.hid (show Lib.IsBuffer 175 5 w.heap.size w.heap.size (Lib.byteCells (acc ++ enc 92)) W2 by have := cells_snoc (acc) 92; rw [← this]; exact h2)
          have HB2 := Lib.hid (HB1.out.trans b2)
          clear h2 b2
          have hsz2 := HB2.out.size
          go_wp2_with fail
          refine (Tryf.Buffer_WriteRune_k w.heap.size w.heap.size _ 117 (by omega) (by omega) W2 HI2.out hsz2 (Lib.byteCells_one _) (by rw [Lib.byteCells_length]; (try simp only [List.length_append]); (try rw [show (enc 92).length = 1 from rfl]); omega)).mono ?_
          rintro e W3 ⟨rfl, h3, b3, -⟩
          have HI3 := Lib.hid (show Lib.IsBuffer 175 5 w.heap.size w.heap.size (Lib.byteCells (acc ++ enc 92 ++ enc 117)) W3 by have := cells_snoc (acc ++ enc 92) 117; rw [← this]; exact h3)
          have HB3 := Lib.hid (HB2.out.trans b3)
          clear h3 b3
          have hsz3 := HB3.out.size
          have hF3 := answers_open (show F.told.answers W3.tape by rw [HB3.out.tape]; exact HFF.out)
          obtain ⟨cap, W5, hcv, hcell, hb5⟩ := four_bytes F r160 (W3.alloc (.cells #[.iface 3 (.int .i64 (r : Int))] 20)).drew
          have HCE := Lib.hid hcell
          have HB35 := Lib.hid (((below_alloc1 W3 (.cells #[.iface 3 (.int .i64 (r : Int))] 20)).drew).trans (hb5.mono (by simp)))
          have HI5 := Lib.hid (isbuf_below HI3.out HB35.out)
          have HB5 := Lib.hid (HB3.out.trans (HB35.out.mono hsz3))
          have hsz5 := HB5.out.size
          have hbw := Lib.hid (show w.heap.size < W3.heap.size from HI3.out.lt)
          have hsz6 : (W3.alloc (.cells #[.iface 3 (.int .i64 (r : Int))] 20)).drew.heap.size = W3.heap.size + 1 := by simp
          rw [hsz6] at hcv HCE
          have HE := Lib.hid (show escB single r = [92, 117] ++ hex4 r by unfold escB; rw [if_neg h34, if_neg h39, if_neg h92, if_neg h8, if_neg h12, if_neg h10, if_neg h13, if_neg h9, if_pos HCTL.out]; rfl)
          clear hcell hb5 hsz6
          go_wp2_with fail
          refine (Tryf.Buffer_Write_any w.heap.size w.heap.size _ (Lib.byteCells (hex4 r)) ⟨W3.heap.size + 1, 0, none⟩ 4 cap W5 HI5.out hsz5 (Lib.byteCells_one _) (by rw [Lib.byteCells_length]; rfl) (by have := hbw.out; show W3.heap.size + 1 ≠ w.heap.size; omega) HCE.out (Lib.byteCells_one _) (by rw [Lib.byteCells_length]; simp only [List.length_append]; rw [show (enc 92).length = 1 from rfl, show (enc 117).length = 1 from rfl]; omega)).mono ?_
          rintro e W6 ⟨rfl, h6, b6, -⟩
          have HI6 := Lib.hid (show Lib.IsBuffer 175 5 w.heap.size w.heap.size (Lib.byteCells (acc ++ enc 92 ++ enc 117 ++ hex4 r)) W6 by rw [Lib.byteCells_append]; exact h6)
          have HB6 := Lib.hid (HB5.out.trans b6)
          clear h6 b6 hcv hF3
          have HX := Lib.hid (HNX.out W6 (by
            have := HI6.out
            rw [show acc ++ enc 92 ++ enc 117 ++ hex4 r = acc ++ escB single r by rw [HE.out]; simp only [List.append_assoc]; rfl] at this; exact this) HB6.out)
          go_wp2
          go_roundw
          case rel => exact ⟨j + L, _, by go_num, HX.out⟩
          case measure => simp [intOf]; omega
      · have hE : escB single r = enc r := by unfold escB; rw [if_neg h34, if_neg h39, if_neg h92, if_neg h8, if_neg h12, if_neg h10, if_neg h13, if_neg h9, if_neg hctl]
        have k1 : ¬ (r : Int) < 32 := by omega
        have HE := Lib.hid hE
        clear hE
        by_cases k2 : 127 ≤ r
        · have k3 : (127 : Int) ≤ (r : Int) := by omega
          have k4 : ¬ (r : Int) ≤ 159 := by omega
          clear hctl
          go_wp2_with fail
          refine (Tryf.Buffer_WriteRune_k w.heap.size w.heap.size _ (r : Int) (by omega) (by omega) W1 HI1.out hsz1 (Lib.byteCells_one _) (by rw [Lib.byteCells_length]; (try simp only [List.length_append]); (try rw [show (enc 92).length = 1 from rfl]); omega)).mono ?_
          rintro e W2 ⟨rfl, h2, b2, -⟩
          have HI2 := Lib.hid (show Lib.IsBuffer 175 5 w.heap.size w.heap.size (Lib.byteCells (acc ++ enc r)) W2 by have := cells_snoc (acc) r; rw [← this]; exact h2)
          have HB2 := Lib.hid (HB1.out.trans b2)
          clear h2 b2
          have hsz2 := HB2.out.size
          have HX := Lib.hid (HNX.out W2 (by
            have := HI2.out
            rw [HE.out]; exact this) HB2.out)
          go_wp2
          go_roundw
          case rel => exact ⟨j + L, _, by go_num, HX.out⟩
          case measure => simp [intOf]; omega
        · have k3 : ¬ (127 : Int) ≤ (r : Int) := by omega
          clear hctl
          go_wp2_with fail
          refine (Tryf.Buffer_WriteRune_k w.heap.size w.heap.size _ (r : Int) (by omega) (by omega) W1 HI1.out hsz1 (Lib.byteCells_one _) (by rw [Lib.byteCells_length]; (try simp only [List.length_append]); (try rw [show (enc 92).length = 1 from rfl]); omega)).mono ?_
          rintro e W2 ⟨rfl, h2, b2, -⟩
          have HI2 := Lib.hid (show Lib.IsBuffer 175 5 w.heap.size w.heap.size (Lib.byteCells (acc ++ enc r)) W2 by have := cells_snoc (acc) r; rw [← this]; exact h2)
          have HB2 := Lib.hid (HB1.out.trans b2)
          clear h2 b2
          have hsz2 := HB2.out.size
          have HX := Lib.hid (HNX.out W2 (by
            have := HI2.out
            rw [HE.out]; exact this) HB2.out)
          go_wp2
          go_roundw
          case rel => exact ⟨j + L, _, by go_num, HX.out⟩
          case measure => simp [intOf]; omega
    · obtain rfl : j = s.size := by omega
      have hfin : escL single cs = acc := by
        have h2 : c2 = [] := by
          cases c2 with
          | nil => rfl
          | cons r c3 =>
            rw [List.drop_eq_nil_of_le (by rw [← Lib.size_eq]; exact Nat.le_refl _)] at hd
            have := congrArg List.length hd
            have h3 := List.length_pos_iff.2 (enc_ne r)
            simp at this
            omega
        rw [hc, h2, hacc, List.append_nil]
      have HFN := Lib.hid hfin; clear hfin hc hd hacc
      go_wp2_with fail
      refine (Tryf.Buffer_String w.heap.size w.heap.size acc wr HA.out.buf).mono ?_
      rintro e W2 ⟨rfl, n, hW⟩
      have HB2 := Lib.hid (show Below w.heap.size w W2 by subst hW; exact HA.out.bel.trans ⟨rfl, rfl, rfl, Nat.le_refl _, fun _ _ => rfl⟩)
      clear hW
      go_wp2
      go_ret
      exact ⟨by rw [HFN.out]; rfl, HB2.out⟩
end Go.Proofs.YtceepfnjdkfjnaaFmt
