/-
  Characters and figures, as the library's functions read them. No program in it.
-/
import Derived.Test.YtceepfnjdkfjnaaFmtStrQuote
import Derived.Shelf.Unicode.DecodeSlow
import Derived.Lib.HexFns2
namespace Go.Proofs.YtceepfnjdkfjnaaFmt
open Go.ChangeShapes Go.WideShapes Go.ChangeAt Go.RowKit Go.Joins

theorem tail_list (s : ByteArray) (j : Nat) : (s.extract j s.size).data.toList = s.data.toList.drop j := by
  rw [ByteArray.data_extract, Array.toList_extract, List.extract_eq_take_drop]
  rw [List.take_of_length_le (by rw [List.length_drop, ← Lib.size_eq]; omega)]
theorem part_list (s : ByteArray) (j k : Nat) : (s.extract j (j + k)).data.toList = (s.data.toList.drop j).take k := by
  rw [ByteArray.data_extract, Array.toList_extract, List.extract_eq_take_drop, Nat.add_sub_cancel_left]
/-- utf8.DecodeRuneInString at a place. -/
theorem dec_at {s : ByteArray} {j r : Nat} {t : List UInt8} (h : Sc r) (e : s.data.toList.drop j = enc r ++ t) : Lib.decodeGo (s.extract j s.size) = (r, (enc r).length) := by
  have hl := tail_list s j
  have hne : (s.extract j s.size).size ≠ 0 := by
    rw [Lib.size_eq, hl, e, List.length_append]
    have := List.length_pos_iff.2 (enc_ne r)
    omega
  unfold Lib.decodeGo
  rw [if_neg hne, ← Lib.decodeL_drop, hl, List.drop_zero, e, dec_enc h]
theorem dec_ascii {s : ByteArray} {j : Nat} {b : UInt8} {t : List UInt8} (hb : b.toNat < 128) (e : s.data.toList.drop j = b :: t) : Lib.decodeGo (s.extract j s.size) = (b.toNat, 1) := by
  have h := dec_at (s := s) (j := j) (r := b.toNat) (t := t) (sc_ascii hb) (by rw [e, enc_ascii hb]; simp)
  rwa [enc_ascii hb] at h
set_option maxRecDepth 100000 in
theorem hexv : ∀ n, n < 256 → 0 ≤ hexF (UInt8.ofNat n) → (Lib.Hx.v (UInt8.ofNat n) : Int) = hexF (UInt8.ofNat n) := by decide
theorem hexv_of {b : UInt8} (h : 0 ≤ hexF b) : (Lib.Hx.v b : Int) = hexF b := by
  have := hexv b.toNat b.toNat_lt
  rw [show UInt8.ofNat b.toNat = b by simp] at this
  exact this h
/-- hex.DecodeString at four figures. -/
theorem hex_four {t : List UInt8} (h : 0 ≤ fourF t) : ∃ x y : Nat, Lib.Hx.decode (t.take 4) = ([UInt8.ofNat x, UInt8.ofNat y], .ok) ∧ x < 256 ∧ y < 256 ∧ (x : Int) * 256 + y = fourF t := by
  obtain ⟨a, b, c, d, u, rfl, h1, h2, h3, h4, e⟩ := four_parts h
  have l1 := hexF_le h1; have l2 := hexF_le h2; have l3 := hexF_le h3; have l4 := hexF_le h4
  have e1 := hexv_of h1; have e2 := hexv_of h2; have e3 := hexv_of h3; have e4 := hexv_of h4
  refine ⟨Lib.Hx.v a * 16 + Lib.Hx.v b, Lib.Hx.v c * 16 + Lib.Hx.v d, ?_, by omega, by omega, by omega⟩
  show Lib.Hx.decode [a, b, c, d] = _
  rw [Lib.Hx.decode_two, if_neg (by omega), if_neg (by omega), Lib.Hx.decode_two, if_neg (by omega), if_neg (by omega), Lib.Hx.decode_nil]
end Go.Proofs.YtceepfnjdkfjnaaFmt
