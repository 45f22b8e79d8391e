/-
  spec.Utf: whether a text is one of whole characters. Conditions: its length.
-/
import Derived.Test.YtceepfnjdkfjnaaFmtTree
import Derived.Test.YtceepfnjdkfjnaaFmtUtf
import Derived.Test.YtceepfnjdkfjnaaFmtStrLaw2
import Derived.Lib.TrimAscii
import Derived.Lib.TrimU
import Derived.Lib.Hide
import Derived.LoopTactic
namespace Go.Proofs.YtceepfnjdkfjnaaFmt
open Go.ChangeShapes Go.WideShapes Go.ChangeAt Go.RowKit Go.Joins

theorem ofn {n : Nat} (h : n < 256) : (UInt8.ofNat n).toNat = n := by simp; omega
theorem enc_two {r : Nat} (h0 : 128 ≤ r) (h1 : r ≤ 2047) : enc r = [UInt8.ofNat (192 + r / 64), UInt8.ofNat (128 + r % 64)] := by
  unfold enc Lib.encodeRune
  rw [Lib.encodeRuneZ_two (by omega) (by omega)]
  simp only [List.map_cons, List.map_nil]
  rw [show (192 + (r : Int) / 64).toNat = 192 + r / 64 by omega, show (128 + (r : Int) % 64).toNat = 128 + r % 64 by omega]
theorem enc_three {r : Nat} (h : (2048 ≤ r ∧ r < 55296) ∨ (57343 < r ∧ r ≤ 65535)) : enc r = [UInt8.ofNat (224 + r / 4096), UInt8.ofNat (128 + r / 64 % 64), UInt8.ofNat (128 + r % 64)] := by
  unfold enc Lib.encodeRune
  rw [Lib.encodeRuneZ_three (by omega)]
  simp only [List.map_cons, List.map_nil]
  rw [show (224 + (r : Int) / 4096).toNat = 224 + r / 4096 by omega, show (128 + (r : Int) / 64 % 64).toNat = 128 + r / 64 % 64 by omega, show (128 + (r : Int) % 64).toNat = 128 + r % 64 by omega]
theorem enc_four {r : Nat} (h0 : 65536 ≤ r) (h1 : r ≤ 1114111) : enc r = [UInt8.ofNat (240 + r / 262144), UInt8.ofNat (128 + r / 4096 % 64), UInt8.ofNat (128 + r / 64 % 64), UInt8.ofNat (128 + r % 64)] := by
  unfold enc Lib.encodeRune
  rw [Lib.encodeRuneZ_four (by omega) (by omega)]
  simp only [List.map_cons, List.map_nil]
  rw [show (240 + (r : Int) / 262144).toNat = 240 + r / 262144 by omega, show (128 + (r : Int) / 4096 % 64).toNat = 128 + r / 4096 % 64 by omega, show (128 + (r : Int) / 64 % 64).toNat = 128 + r / 64 % 64 by omega, show (128 + (r : Int) % 64).toNat = 128 + r % 64 by omega]
/-- What was encoded is decoded. -/
theorem dec_enc {r : Nat} (h : Sc r) (t : List UInt8) : Lib.decodeL (enc r ++ t) = (r, (enc r).length) := by
  obtain ⟨hm, hs⟩ := h
  by_cases h1 : r < 128
  · rw [enc_ascii h1, List.singleton_append, Lib.decodeL_ascii _ _ (by simp; omega)]
    simp; omega
  by_cases h2 : r ≤ 2047
  · rw [enc_two (by omega) h2, Lib.decodeL_N]
    simp only [List.cons_append, List.nil_append, List.getD_cons_zero, List.getD_cons_succ, List.length_cons, ofn (show 192 + r / 64 < 256 by omega), ofn (show 128 + r % 64 < 256 by omega)]
    unfold Lib.decodeN
    rw [if_neg (by omega), if_pos (by omega), if_pos (by omega)]
    simp; omega
  by_cases h3 : r ≤ 65535
  · rw [enc_three (by omega), Lib.decodeL_N]
    simp only [List.cons_append, List.nil_append, List.getD_cons_zero, List.getD_cons_succ, List.length_cons, ofn (show 224 + r / 4096 < 256 by omega), ofn (show 128 + r / 64 % 64 < 256 by omega), ofn (show 128 + r % 64 < 256 by omega)]
    unfold Lib.decodeN
    rw [if_neg (by omega), if_neg (by omega), if_pos (by omega), if_pos (by omega)]
    simp; omega
  · rw [enc_four (by omega) hm, Lib.decodeL_N]
    simp only [List.cons_append, List.nil_append, List.getD_cons_zero, List.getD_cons_succ, List.length_cons, ofn (show 240 + r / 262144 < 256 by omega), ofn (show 128 + r / 4096 % 64 < 256 by omega), ofn (show 128 + r / 64 % 64 < 256 by omega), ofn (show 128 + r % 64 < 256 by omega)]
    unfold Lib.decodeN
    rw [if_neg (by omega), if_neg (by omega), if_neg (by omega), if_pos (by omega), if_pos (by omega)]
    simp; omega
/-- A character that is decoded, as one that is a character's. -/
theorem enc_sc {r : Nat} (hr : r ≤ 1114111) : ∃ r', Sc r' ∧ enc r' = enc r := by
  by_cases h : 55296 ≤ r ∧ r < 57344
  · refine ⟨65533, ⟨by omega, by omega⟩, ?_⟩
    unfold enc Lib.encodeRune
    rw [Lib.encodeRuneZ_bad (r := (r : Int)) (by omega)]
    rfl
  · exact ⟨r, ⟨hr, h⟩, rfl⟩
theorem val_of_runes (s : ByteArray) : ∀ (f i : Nat), Lib.runesFrom s f i = s.data.toList.drop i → s.size ≤ i + f → Val (s.data.toList.drop i)
  | 0, i, h, _ => by rw [← h]; exact Val.nil
  | f + 1, i, h, hf => by
    by_cases hi : i < s.size
    · obtain ⟨h1, h2⟩ := chunk h hi hf
      have hp := Lib.width_pos s i
      have hv := val_of_runes s f _ h2 (by omega)
      rw [← List.take_append_drop (Utf8.decode s i).2 (s.data.toList.drop i), ← h1, List.drop_drop]
      obtain ⟨r', hr, e⟩ := enc_sc (Lib.rune_le s i)
      have := Val.cons hr hv
      rwa [e] at this
    · rw [List.drop_eq_nil_of_le (by rw [← Lib.size_eq]; omega)]
      exact Val.nil
theorem runes_of_val (s : ByteArray) : ∀ (f i : Nat), Val (s.data.toList.drop i) → s.size ≤ i + f → Lib.runesFrom s f i = s.data.toList.drop i
  | 0, i, _, hf => by rw [List.drop_eq_nil_of_le (by rw [← Lib.size_eq]; omega)]; rfl
  | f + 1, i, hv, hf => by
    unfold Lib.runesFrom
    by_cases hi : i < s.size
    · rw [if_pos hi]
      obtain ⟨r, t, hs, ht, e⟩ := hv.cases (drop_ne hi)
      have hd : Utf8.decode s i = (r, (enc r).length) := by rw [← Lib.decodeL_drop, e, dec_enc hs]
      have hp := Lib.width_pos s i
      have h2 : s.data.toList.drop (i + (Utf8.decode s i).2) = t := by
        rw [← List.drop_drop, e, hd]
        simp
      rw [runes_of_val s f _ (by rw [h2]; exact ht) (by omega), h2, e, hd]
    · rw [if_neg hi, List.drop_eq_nil_of_le (by rw [← Lib.size_eq]; omega)]
theorem utf_iff (s : ByteArray) : Lib.runesFrom s s.size 0 = s.data.toList ↔ Val s.data.toList :=
  ⟨fun h => by simpa using val_of_runes s s.size 0 (by simpa using h) (by omega), fun h => by simpa using runes_of_val s s.size 0 (by simpa using h) (by omega)⟩
theorem bytes_eq {a b : ByteArray} : (a.toList == b.toList) = true ↔ a = b := by
  constructor
  · intro h
    rw [ByteArray.toList_eq, ByteArray.toList_eq] at h
    have h' : a.data = b.data := Array.toList_inj.1 (eq_of_beq h)
    cases a; cases b
    exact congrArg ByteArray.mk h'
  · rintro rfl; exact beq_self_eq_true _
theorem utf_facts (s : ByteArray) (hs : s.size ≤ 2147483647) (w : World) : ∃ (n c : Nat) (cs : Array Value) (s2 : ByteArray),
    (convert 9 78 (.string s)).run Tryf.prog w = .ok (.slice (some ⟨w.heap.size, 0, none⟩) n c) ((w.alloc (.cells cs 21)).drew) ∧
    (convert 78 9 (.slice (some ⟨w.heap.size, 0, none⟩) n c)).run Tryf.prog ((w.alloc (.cells cs 21)).drew) = .ok (.string s2) ((w.alloc (.cells cs 21)).drew) ∧
    s2.data.toList = Lib.runesFrom s s.size 0 := by
  have hc := convRunes_eq s s.size 0 #[]
  have hl := runesN_len s s.size 0
  have h46 : (Conv.runesFrom s s.size 0 #[]).size ≤ 70368744177664 := by
    rw [hc]
    simp
    omega
  have h1 := run_runes_of_string (P := Tryf.prog) w 9 78 21 s Tryf.underlying9 Tryf.underlying78 Tryf.underlying21 h46
  rw [hc] at h1
  obtain ⟨ns, hns⟩ : ∃ ns, runesN s s.size 0 = ns := ⟨_, rfl⟩
  rw [hns] at h1 hl
  obtain ⟨c, hcap⟩ : ∃ c, grownCap w (#[] ++ (ns.map (Value.int .i32)).toArray).size 0 21 = c := ⟨_, rfl⟩
  rw [hcap] at h1
  refine ⟨_, c, _, runesBytes ns, h1, ?_, ?_⟩
  · have e : (#[] ++ (ns.map (Value.int .i32)).toArray).size = ns.length := by simp
    rw [e]
    have h2 := run_convert_runes (P := Tryf.prog) ((w.alloc (.cells (#[] ++ (ns.map (Value.int .i32)).toArray ++ Array.replicate (c - ns.length) (.int .i32 0)) 21)).drew) 78 9 21 ⟨w.heap.size, 0, none⟩ ns.length c ns (Nat.le_refl _) Tryf.underlying78 Tryf.underlying21 Tryf.underlying9 (fun j hj => by
      rw [Addr.add_mid]
      show (w.alloc _).cell? ⟨w.heap.size, 0 + j, none⟩ = _
      rw [World.cell?_alloc_mark, Nat.zero_add]
      rw [Array.getElem?_append_left (by simp; exact hj)]
      simp [List.getD, List.getElem?_eq_getElem hj])
    rw [List.take_length] at h2
    exact h2
  · rw [← runesBytes_list, hns]
theorem utf_any (s : ByteArray) (hs : s.size ≤ 2147483647) (w : World) : Calls Tryf.prog 16 #[.string s] w fun e w' => (∃ r : Bool, e = .returned (.bool r) ∧ (r = true ↔ Val s.data.toList)) ∧ Below w.heap.size w w' := by
  obtain ⟨n, c, cs, s2, h1, h2, h3⟩ := utf_facts s hs w
  have H3 := Lib.hid h3; clear h3
  go_enter Tryf.func16, Tryf.ntmps16
  go_wp2
  go_ret
  refine ⟨⟨_, rfl, ?_⟩, (below_alloc1 _ _).drew⟩
  rw [← utf_iff, ← H3.out, bytes_eq]
  constructor
  · rintro rfl; rfl
  · intro h
    cases s; cases s2
    exact congrArg ByteArray.mk (Array.toList_inj.1 h)
end Go.Proofs.YtceepfnjdkfjnaaFmt
