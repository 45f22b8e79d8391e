/-
  A round of parser.StringUnescape's loop: way 4. Conditions: what stands there.
-/
import Derived.Test.YtceepfnjdkfjnaaFmtStrPar0
namespace Go.Proofs.YtceepfnjdkfjnaaFmt
open Go.ChangeShapes Go.WideShapes Go.ChangeAt Go.RowKit Go.Joins
set_option maxHeartbeats 8000000 in
set_option maxRecDepth 1000000 in
theorem par_pair (loc : Value) (s : ByteArray) (hs : s.size ≤ 400) (w : World) (HT : Hid (Lib.Utf8Tabs 0 1 w)) (HE : Hid (∃ ev, w.cell? ⟨3, 0, none⟩ = some ev)) (j : Nat) (acc : List UInt8) (wr : World) (HA : Hid (At s w j acc wr)) (hjl : j < s.size)
    (t u : List UInt8) (h1 : 55296 ≤ fourF t) (h2 : fourF t < 56320) (hd : t.drop 4 = 92 :: 117 :: u) (h3 : 56320 ≤ fourF u) (h4 : fourF u < 57344) (ht : Val (u.drop 4)) (e0 : s.data.toList.drop j = 92 :: 117 :: t) (e1 : unL (s.data.toList.drop j) = ((unL (u.drop 4)).1, enc (65536 + (fourF t - 55296) * 1024 + fourF u - 56320).toNat ++ (unL (u.drop 4)).2))
    (N : Nat) (hN : N = s.size - j) (Q0 : Exit → Act → World → Prop) (u4 u5 u8 u9 u10 u11 u12 u13 u14 u15 u16 u17 u18 u19 u20 u21 u22 u23 u24 u25 u26 u27 u28 u29 u30 u31 u32 u33 u34 u35 u36 u37 u38 u39 u40 u41 u42 u43 u44 u45 u46 u47 u48 u49 u50 u51 u52 u53 u54 u55 u56 u57 u58 u59 u60 u61 u62 u63 u64 u65 u66 u67 u68 u69 u70 u71 u72 u73 u74 u75 u76 u77 u78 u79 u80 u81 u82 u83 u84 u85 u86 u87 u88 u89 u90 u91 u92 u93 u94 u95 u96 u97 u98 u99 u100 u101 u102 u103 u104 u105 u106 u107 u108 u109 u110 u111 u112 u113 u114 u115 u116 u117 u118 u119 u120 u121 u122 u123 u124 u125 u126 u127 u128 u129 u130 u131 u132 u133 u134 u135 u136 u137 u138 u139 u140 u141 u142 u143 u144 u145 u146 u147 u148 u149 u150 u151 u152 u153 u154 u155 u156 u157 u158 u159 u160 u161 u162 u163 u164 u165 u166 u167 u168 u169 u170 u171 u172 u173 u174 u175 u176 u177 u178 u179 u180 u181 u182 u183 u184 u185 u186 u187 u188 u189 u190 u191 u192 u193 u194 u195 u196 u197 u198 : Value) :
    Code.wp Tryf.prog parBody (Exit.then (fun a' w'' => ParI loc s w a' w'' ∧ ParMu s a' w'' < N) Q0) ⟨#[loc, .string s, undef, undef, u4, u5, .pointer (some ⟨w.heap.size, 0, none⟩), .int .i64 j, u8, u9, u10, u11, u12, u13, u14, u15, u16, u17, u18, u19, u20, u21, u22, u23, u24, u25, u26, u27, u28, u29, u30, u31, u32, u33, u34, u35, u36, u37, u38, u39, u40, u41, u42, u43, u44, u45, u46, u47, u48, u49, u50, u51, u52, u53, u54, u55, u56, u57, u58, u59, u60, u61, u62, u63, u64, u65, u66, u67, u68, u69, u70, u71, u72, u73, u74, u75, u76, u77, u78, u79, u80, u81, u82, u83, u84, u85, u86, u87, u88, u89, u90, u91, u92, u93, u94, u95, u96, u97, u98, u99, u100, u101, u102, u103, u104, u105, u106, u107, u108, u109, u110, u111, u112, u113, u114, u115, u116, u117, u118, u119, u120, u121, u122, u123, u124, u125, u126, u127, u128, u129, u130, u131, u132, u133, u134, u135, u136, u137, u138, u139, u140, u141, u142, u143, u144, u145, u146, u147, u148, u149, u150, u151, u152, u153, u154, u155, u156, u157, u158, u159, u160, u161, u162, u163, u164, u165, u166, u167, u168, u169, u170, u171, u172, u173, u174, u175, u176, u177, u178, u179, u180, u181, u182, u183, u184, u185, u186, u187, u188, u189, u190, u191, u192, u193, u194, u195, u196, u197, u198], []⟩ wr := by
  conv => arg 2; whnf
  have HN := Lib.hid hN; clear hN
  have hj := HA.out.le
  have hsz := HA.out.bel.size
  have hac := HA.out.len
  have HTr := Lib.hid (Utf8Tabs_below HT.out (HA.out.bel.mono (Nat.le_refl _)))
  have hr4 := four_range (show 0 ≤ fourF t by omega)
  have HDG := Lib.hid (dec_ascii (s := s) (j := j) (by decide : (92 : UInt8).toNat < 128) e0)
  have e2 : s.data.toList.drop (j + 1) = 117 :: t := by rw [← List.drop_drop, e0]; rfl
  have e3 : s.data.toList.drop (j + 2) = t := by rw [← List.drop_drop, e0]; rfl
  have hlen : j + 6 ≤ s.size := by
    obtain ⟨_, _, _, _, u, hu, _⟩ := four_parts (t := t) (by omega)
    have := congrArg List.length e3
    rw [hu, List.length_drop, ← Lib.size_eq] at this
    simp at this
    omega
  have hj1 : j + 1 < s.size := by omega
  have HDG2 := Lib.hid (dec_ascii (s := s) (j := j + 1) (by decide : (117 : UInt8).toNat < 128) e2)
  have HL4 := Lib.hid (show (s.extract (j + 2) (j + 2 + 4)).data.toList = t.take 4 by rw [part_list, e3])
  obtain ⟨x, y, hxy, hx, hy, hsum⟩ := hex_four (t := t) (by omega)
  have HXY := Lib.hid hxy
  clear hxy
  have e6 : s.data.toList.drop (j + 6) = 92 :: 117 :: u := by rw [← hd, ← e3, List.drop_drop]
  have e8 : s.data.toList.drop (j + 8) = u := by
    have : s.data.toList.drop (j + 8) = (s.data.toList.drop (j + 6)).drop 2 := by rw [List.drop_drop]
    rw [this, e6]
    rfl
  have hlen2 : j + 12 ≤ s.size := by
    obtain ⟨_, _, _, _, u', hu, _⟩ := four_parts (t := u) (by omega)
    have := congrArg List.length e8
    rw [hu, List.length_drop, ← Lib.size_eq] at this
    simp at this
    omega
  have HL8 := Lib.hid (show (s.extract (j + 8) (j + 8 + 4)).data.toList = u.take 4 by rw [part_list, e8])
  have hext : s.extract (j + 6) (j + 6 + 2) = ⟨#[92, 117]⟩ := by rw [← bs_list (s.extract (j + 6) (j + 6 + 2)), part_list, e6]; rfl
  obtain ⟨x2, y2, hxy2, hx2, hy2, hsum2⟩ := hex_four (t := u) (by omega)
  have HXY2 := Lib.hid hxy2
  clear hxy2
  have hdt : s.data.toList.drop (j + 12) = u.drop 4 := by rw [← e8, List.drop_drop]
  obtain ⟨c, hc⟩ : ∃ c, 65536 + (fourF t - 55296) * 1024 + fourF u - 56320 = c := ⟨_, rfl⟩
  rw [hc] at e1
  have hel : (enc c.toNat).length ≤ 4 := by have := Lib.encodeRuneZ_length_le (c.toNat : Int); simpa [enc, Lib.encodeRune] using this
  have HNX := Lib.hid (fun (w2 : World) (hbuf : Lib.IsBuffer 175 5 w.heap.size w.heap.size (Lib.byteCells (acc ++ enc c.toNat)) w2) (hb : Below w.heap.size w w2) => (show At s w (j + 12) (acc ++ enc c.toNat) w2 from
    ⟨hlen2, hbuf, hb, by rw [hdt]; exact ht, HA.out.un.step (by rw [hdt]; exact e1), by have := HA.out.ok; rw [e1] at this; rw [hdt]; exact this, by rw [List.length_append]; omega⟩))
  have k1 : 55296 ≤ (x : Int) * 256 + (y : Int) := by omega
  have k2 : (x : Int) * 256 + (y : Int) < 56320 := by omega
  have k3 : 56320 ≤ (x2 : Int) * 256 + (y2 : Int) := by omega
  have k4 : (x2 : Int) * 256 + (y2 : Int) < 57344 := by omega
  have HCV := Lib.hid (show Lib.byteCells acc ++ Lib.runeCells (65536 + ((x : Int) * 256 + (y : Int) - 55296) * 1024 + ((x2 : Int) * 256 + (y2 : Int)) - 56320) = Lib.byteCells (acc ++ enc c.toNat) by rw [← cells_snoc, show ((c.toNat : Nat) : Int) = 65536 + ((x : Int) * 256 + (y : Int) - 55296) * 1024 + ((x2 : Int) * 256 + (y2 : Int)) - 56320 by omega])
  clear hdt e0 e1 e2 e3 e6 e8 hsum hsum2 hel hd h1 h2 h3 h4 hc
  go_wp2_with fail
  refine (Tryf.utf8_DecodeRuneInString (s.extract j s.size) wr HTr.out).mono ?_
  rintro e W1 ⟨he, hb1⟩
  rw [HDG.out] at he
  have he' : e = .returned (.tuple #[.int .i32 92, .int .i64 1]) := he
  subst he'
  clear he
  have HB1 := Lib.hid (HA.out.bel.trans (hb1.mono hsz))
  have HI1 := Lib.hid (isbuf_below HA.out.buf hb1)
  have HT1 := Lib.hid (Utf8Tabs_below HT.out (HB1.out.mono (Nat.le_refl _)))
  clear hb1
  have hsz1 := HB1.out.size
  go_wp2_with fail
  refine (Tryf.utf8_DecodeRuneInString (s.extract (j + 1) s.size) W1 HT1.out).mono ?_
  rintro e W2 ⟨he, hb2⟩
  rw [HDG2.out] at he
  have he' : e = .returned (.tuple #[.int .i32 117, .int .i64 1]) := he
  subst he'
  clear he
  have HB2 := Lib.hid (HB1.out.trans (hb2.mono hsz1))
  have HI2 := Lib.hid (isbuf_below HI1.out hb2)
  clear hb2
  have hsz2 := HB2.out.size
  go_wp2_with fail
  obtain ⟨ev, hev⟩ := HE.out
  refine (Tryf.hex_DecodeString_owns (s.extract (j + 2) (j + 2 + 4)) W2 ev (keep_cell HB2.out hev) (by rw [ByteArray.size_extract]; omega)).mono ?_
  rintro e W3 ⟨v, he, hrow, hb3⟩
  rw [HL4.out, HXY.out] at he hrow
  have HB3 := Lib.hid (HB2.out.trans (hb3.mono hsz2))
  have HI3 := Lib.hid (isbuf_below HI2.out hb3)
  have hsz3 := HB3.out.size
  obtain ⟨-, ⟨-, hz⟩ | ⟨g3, cap3, cur3, rfl, -, hbk, -, -, -, htake⟩⟩ := hrow
  · cases hz
  have he' : e = .returned (.tuple #[.slice (some ⟨g3, 0, none⟩) 2 cap3, .nilIface]) := he
  subst he'
  clear he hev hb3
  obtain ⟨q0, q1⟩ := two_cells hbk htake hx hy
  clear hbk htake
  go_wp2_with fail
  refine wp_region_quiet_C (fun w' => w' = W3.drew) (by kernel_rfl) (by kernel_rfl) (rfl) ?_
  repeat (first
    | (refine wpQ_skip (by rfl) ?_; simp only [Act.put, List.setIfInBounds_toArray, List.set_cons_zero, List.set_cons_succ])
    | (refine wpQ_value (v := ?_) (by rfl) ?_ ?_; rotate_left; (intro w hw; go_simp; done); simp only [Act.put, List.setIfInBounds_toArray, List.set_cons_zero, List.set_cons_succ])
    | (refine wpQ_value (v := ?_) (by rfl) ?_ ?_; rotate_left; (intro w hw; go_simp; with_reducible rfl); simp only [Act.put, List.setIfInBounds_toArray, List.set_cons_zero, List.set_cons_succ])
    | (refine wpQ_call (f := ?_) (args := ?_) (v := ?_) (by rfl) ?_ ?_ ?_; rotate_left 3; (intro w hw; go_simp; first | with_reducible rfl | (constructor; with_reducible rfl; with_reducible rfl)); (intro w hw; first | fail); simp only [Act.put, List.setIfInBounds_toArray, List.set_cons_zero, List.set_cons_succ]))
  refine wpQuiet_nil ?_
  intro V3 hw'
  have HBV3 := Lib.hid (show Below w.heap.size w V3 by subst hw'; exact HB3.out.drew)
  have HIV3 := Lib.hid (show Lib.IsBuffer 175 5 w.heap.size w.heap.size (Lib.byteCells acc) V3 by subst hw'; exact HI3.out)
  clear q0 q1 hw'
  have hsv3 := HBV3.out.size
  go_wp2_with fail
  refine (surr_yes ((x : Int) * 256 + (y : Int)) k1 (by omega) V3).mono ?_
  rintro e W4 ⟨rfl, rfl⟩
  go_wp2_with fail
  obtain ⟨ev, hev⟩ := HE.out
  refine (Tryf.hex_DecodeString_owns (s.extract (j + 8) (j + 8 + 4)) V3 ev (keep_cell HBV3.out hev) (by rw [ByteArray.size_extract]; omega)).mono ?_
  rintro e W5 ⟨v, he, hrow, hb5⟩
  rw [HL8.out, HXY2.out] at he hrow
  have HB5 := Lib.hid (HBV3.out.trans (hb5.mono hsv3))
  have HI5 := Lib.hid (isbuf_below HIV3.out hb5)
  have hsz5 := HB5.out.size
  obtain ⟨-, ⟨-, hz⟩ | ⟨g5, cap5, cur5, rfl, -, hbk, -, -, -, htake⟩⟩ := hrow
  · cases hz
  have he' : e = .returned (.tuple #[.slice (some ⟨g5, 0, none⟩) 2 cap5, .nilIface]) := he
  subst he'
  clear he hev hb5
  obtain ⟨q0, q1⟩ := two_cells hbk htake hx2 hy2
  clear hbk htake
  go_wp2_with fail
  refine wp_region_quiet_C (fun w' => w' = W5.drew) (by kernel_rfl) (by kernel_rfl) (rfl) ?_
  repeat (first
    | (refine wpQ_skip (by rfl) ?_; simp only [Act.put, List.setIfInBounds_toArray, List.set_cons_zero, List.set_cons_succ])
    | (refine wpQ_value (v := ?_) (by rfl) ?_ ?_; rotate_left; (intro w hw; go_simp; done); simp only [Act.put, List.setIfInBounds_toArray, List.set_cons_zero, List.set_cons_succ])
    | (refine wpQ_value (v := ?_) (by rfl) ?_ ?_; rotate_left; (intro w hw; go_simp; with_reducible rfl); simp only [Act.put, List.setIfInBounds_toArray, List.set_cons_zero, List.set_cons_succ])
    | (refine wpQ_call (f := ?_) (args := ?_) (v := ?_) (by rfl) ?_ ?_ ?_; rotate_left 3; (intro w hw; go_simp; first | with_reducible rfl | (constructor; with_reducible rfl; with_reducible rfl)); (intro w hw; first | fail); simp only [Act.put, List.setIfInBounds_toArray, List.set_cons_zero, List.set_cons_succ]))
  refine wpQuiet_nil ?_
  intro V5 hw'
  have HBV5 := Lib.hid (show Below w.heap.size w V5 by subst hw'; exact HB5.out.drew)
  have HIV5 := Lib.hid (show Lib.IsBuffer 175 5 w.heap.size w.heap.size (Lib.byteCells acc) V5 by subst hw'; exact HI5.out)
  clear q0 q1 hw'
  have hsv5 := HBV5.out.size
  go_wp2_with fail
  refine (pair_any ((x : Int) * 256 + (y : Int)) ((x2 : Int) * 256 + (y2 : Int)) k1 k2 k3 k4 V5).mono ?_
  rintro e W6 ⟨rfl, rfl⟩
  go_wp2_with fail
  refine (Tryf.Buffer_WriteRune_k w.heap.size w.heap.size _ (65536 + ((x : Int) * 256 + (y : Int) - 55296) * 1024 + ((x2 : Int) * 256 + (y2 : Int)) - 56320) (by omega) (by omega) V5 HIV5.out hsv5 (Lib.byteCells_one _) (by rw [Lib.byteCells_length]; omega)).mono ?_
  rintro e W7 ⟨rfl, h5, b5, -⟩
  have HX := Lib.hid (HNX.out W7 (by rw [← HCV.out]; exact h5) (HBV5.out.trans b5))
  clear h5 b5
  go_wp2
  refine ⟨?_, by have hN := HN.out; subst hN; simp [ParMu, intOf]; omega⟩
  unfold ParI
  refine ⟨_, _, _, _, _, _, _, _, _, _, _, _, _, _, _, _, _, _, _, _, _, _, _, _, _, _, _, _, _, _, _, _, _, _, _, _, _, _, _, _, _, _, _, _, _, _, _, _, _, _, _, _, _, _, _, _, _, _, _, _, _, _, _, _, _, _, _, _, _, _, _, _, _, _, _, _, _, _, _, _, _, _, _, _, _, _, _, _, _, _, _, _, _, _, _, _, _, _, _, _, _, _, _, _, _, _, _, _, _, _, _, _, _, _, _, _, _, _, _, _, _, _, _, _, _, _, _, _, _, _, _, _, _, _, _, _, _, _, _, _, _, _, _, _, _, _, _, _, _, _, _, _, _, _, _, _, _, _, _, _, _, _, _, _, _, _, _, _, _, _, _, _, _, _, _, _, _, _, _, _, _, _, _, _, _, _, _, _, _, _, _, _, _, _, ?_, rfl⟩
  exact ⟨j + 12, _, by go_num, HX.out⟩
end Go.Proofs.YtceepfnjdkfjnaaFmt
