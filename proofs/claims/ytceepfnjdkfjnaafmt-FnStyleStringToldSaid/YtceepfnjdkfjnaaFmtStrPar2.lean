/-
  A round of parser.StringUnescape's loop: way 2. Conditions: what stands there.
-/
import Derived.Test.YtceepfnjdkfjnaaFmtStrPar0
namespace Go.Proofs.YtceepfnjdkfjnaaFmt
open Go.ChangeShapes Go.WideShapes Go.ChangeAt Go.RowKit Go.Joins
set_option maxHeartbeats 8000000 in
set_option maxRecDepth 1000000 in
theorem par_esc (loc : Value) (s : ByteArray) (hs : s.size ≤ 400) (w : World) (HT : Hid (Lib.Utf8Tabs 0 1 w)) (_HE : Hid (∃ ev, w.cell? ⟨3, 0, none⟩ = some ev)) (j : Nat) (acc : List UInt8) (wr : World) (HA : Hid (At s w j acc wr)) (hjl : j < s.size)
    (x : UInt8) (t : List UInt8) (hx : x.toNat < 128) (hx2 : escF x ≠ []) (ht : Val t) (e0 : s.data.toList.drop j = 92 :: x :: t) (e1 : unL (s.data.toList.drop j) = ((unL t).1, escF x ++ (unL t).2))
    (N : Nat) (hN : N = s.size - j) (Q0 : Exit → Act → World → Prop) (u4 u5 u8 u9 u10 u11 u12 u13 u14 u15 u16 u17 u18 u19 u20 u21 u22 u23 u24 u25 u26 u27 u28 u29 u30 u31 u32 u33 u34 u35 u36 u37 u38 u39 u40 u41 u42 u43 u44 u45 u46 u47 u48 u49 u50 u51 u52 u53 u54 u55 u56 u57 u58 u59 u60 u61 u62 u63 u64 u65 u66 u67 u68 u69 u70 u71 u72 u73 u74 u75 u76 u77 u78 u79 u80 u81 u82 u83 u84 u85 u86 u87 u88 u89 u90 u91 u92 u93 u94 u95 u96 u97 u98 u99 u100 u101 u102 u103 u104 u105 u106 u107 u108 u109 u110 u111 u112 u113 u114 u115 u116 u117 u118 u119 u120 u121 u122 u123 u124 u125 u126 u127 u128 u129 u130 u131 u132 u133 u134 u135 u136 u137 u138 u139 u140 u141 u142 u143 u144 u145 u146 u147 u148 u149 u150 u151 u152 u153 u154 u155 u156 u157 u158 u159 u160 u161 u162 u163 u164 u165 u166 u167 u168 u169 u170 u171 u172 u173 u174 u175 u176 u177 u178 u179 u180 u181 u182 u183 u184 u185 u186 u187 u188 u189 u190 u191 u192 u193 u194 u195 u196 u197 u198 : Value) :
    Code.wp Tryf.prog parBody (Exit.then (fun a' w'' => ParI loc s w a' w'' ∧ ParMu s a' w'' < N) Q0) ⟨#[loc, .string s, undef, undef, u4, u5, .pointer (some ⟨w.heap.size, 0, none⟩), .int .i64 j, u8, u9, u10, u11, u12, u13, u14, u15, u16, u17, u18, u19, u20, u21, u22, u23, u24, u25, u26, u27, u28, u29, u30, u31, u32, u33, u34, u35, u36, u37, u38, u39, u40, u41, u42, u43, u44, u45, u46, u47, u48, u49, u50, u51, u52, u53, u54, u55, u56, u57, u58, u59, u60, u61, u62, u63, u64, u65, u66, u67, u68, u69, u70, u71, u72, u73, u74, u75, u76, u77, u78, u79, u80, u81, u82, u83, u84, u85, u86, u87, u88, u89, u90, u91, u92, u93, u94, u95, u96, u97, u98, u99, u100, u101, u102, u103, u104, u105, u106, u107, u108, u109, u110, u111, u112, u113, u114, u115, u116, u117, u118, u119, u120, u121, u122, u123, u124, u125, u126, u127, u128, u129, u130, u131, u132, u133, u134, u135, u136, u137, u138, u139, u140, u141, u142, u143, u144, u145, u146, u147, u148, u149, u150, u151, u152, u153, u154, u155, u156, u157, u158, u159, u160, u161, u162, u163, u164, u165, u166, u167, u168, u169, u170, u171, u172, u173, u174, u175, u176, u177, u178, u179, u180, u181, u182, u183, u184, u185, u186, u187, u188, u189, u190, u191, u192, u193, u194, u195, u196, u197, u198], []⟩ wr := by
  conv => arg 2; whnf
  have HN := Lib.hid hN; clear hN
  have hj := HA.out.le
  have hsz := HA.out.bel.size
  have hac := HA.out.len
  have HTr := Lib.hid (Utf8Tabs_below HT.out (HA.out.bel.mono (Nat.le_refl _)))
  have HDG := Lib.hid (dec_ascii (s := s) (j := j) (by decide : (92 : UInt8).toNat < 128) e0)
  have e2 : s.data.toList.drop (j + 1) = x :: t := by rw [← List.drop_drop, e0]; rfl
  have hlen : j + 2 ≤ s.size := by
    have := congrArg List.length e0
    rw [List.length_drop, ← Lib.size_eq] at this
    simp at this
    omega
  have hj1 : j + 1 < s.size := by omega
  have hdt : s.data.toList.drop (j + 2) = t := by rw [← List.drop_drop, e0]; rfl
  have HDG2 := Lib.hid (dec_ascii (s := s) (j := j + 1) hx e2)
  have HNX := Lib.hid (fun (w2 : World) (hbuf : Lib.IsBuffer 175 5 w.heap.size w.heap.size (Lib.byteCells (acc ++ escF x)) w2) (hb : Below w.heap.size w w2) => (show At s w (j + 2) (acc ++ escF x) w2 from
    ⟨hlen, hbuf, hb, by rw [hdt]; exact ht, HA.out.un.step (by rw [hdt]; exact e1), by have := HA.out.ok; rw [e1] at this; rw [hdt]; exact this, by have := esc_len x; rw [List.length_append]; omega⟩))
  clear hdt e0 e1 e2
  go_wp2_with fail
  refine (Tryf.utf8_DecodeRuneInString (s.extract j s.size) wr HTr.out).mono ?_
  rintro e W1 ⟨he, hb1⟩
  rw [HDG.out] at he
  have he' : e = .returned (.tuple #[.int .i32 92, .int .i64 1]) := he
  subst he'
  clear he
  have HB1 := Lib.hid (HA.out.bel.trans (hb1.mono hsz))
  have HI1 := Lib.hid (isbuf_below HA.out.buf hb1)
  have HT1 := Lib.hid (Utf8Tabs_below HT.out (HB1.out.mono (Nat.le_refl _)))
  clear hb1
  have hsz1 := HB1.out.size
  go_wp2_with fail
  refine (Tryf.utf8_DecodeRuneInString (s.extract (j + 1) s.size) W1 HT1.out).mono ?_
  rintro e W2 ⟨he, hb2⟩
  rw [HDG2.out] at he
  have HB2 := Lib.hid (HB1.out.trans (hb2.mono hsz1))
  have HI2 := Lib.hid (isbuf_below HI1.out hb2)
  clear hb2
  have hsz2 := HB2.out.size
  have HNINE := Lib.hid (esc_nine hx2)
  clear hx hx2
  rcases HNINE.out with rfl | rfl | rfl | rfl | rfl | rfl | rfl | rfl | rfl
  · have he' : e = .returned (.tuple #[.int .i32 34, .int .i64 1]) := he
    subst he'
    clear he
    go_wp2_with fail
    refine (Tryf.Buffer_WriteRune_k w.heap.size w.heap.size _ 34 (by omega) (by omega) W2 HI2.out hsz2 (Lib.byteCells_one _) (by rw [Lib.byteCells_length]; omega)).mono ?_
    rintro e W3 ⟨rfl, h3, b3, -⟩
    have HX := Lib.hid (HNX.out W3 (by
      have := cells_snoc acc 34
      rw [show acc ++ escF 34 = acc ++ enc 34 from rfl, ← this]
      exact h3) (HB2.out.trans b3))
    clear h3 b3
    go_wp2
    refine ⟨?_, by have hN := HN.out; subst hN; simp [ParMu, intOf]; omega⟩
    unfold ParI
    refine ⟨_, _, _, _, _, _, _, _, _, _, _, _, _, _, _, _, _, _, _, _, _, _, _, _, _, _, _, _, _, _, _, _, _, _, _, _, _, _, _, _, _, _, _, _, _, _, _, _, _, _, _, _, _, _, _, _, _, _, _, _, _, _, _, _, _, _, _, _, _, _, _, _, _, _, _, _, _, _, _, _, _, _, _, _, _, _, _, _, _, _, _, _, _, _, _, _, _, _, _, _, _, _, _, _, _, _, _, _, _, _, _, _, _, _, _, _, _, _, _, _, _, _, _, _, _, _, _, _, _, _, _, _, _, _, _, _, _, _, _, _, _, _, _, _, _, _, _, _, _, _, _, _, _, _, _, _, _, _, _, _, _, _, _, _, _, _, _, _, _, _, _, _, _, _, _, _, _, _, _, _, _, _, _, _, _, _, _, _, _, _, _, _, _, _, ?_, rfl⟩
    exact ⟨j + 2, _, by go_num, HX.out⟩
  · have he' : e = .returned (.tuple #[.int .i32 39, .int .i64 1]) := he
    subst he'
    clear he
    go_wp2_with fail
    refine (Tryf.Buffer_WriteRune_k w.heap.size w.heap.size _ 39 (by omega) (by omega) W2 HI2.out hsz2 (Lib.byteCells_one _) (by rw [Lib.byteCells_length]; omega)).mono ?_
    rintro e W3 ⟨rfl, h3, b3, -⟩
    have HX := Lib.hid (HNX.out W3 (by
      have := cells_snoc acc 39
      rw [show acc ++ escF 39 = acc ++ enc 39 from rfl, ← this]
      exact h3) (HB2.out.trans b3))
    clear h3 b3
    go_wp2
    refine ⟨?_, by have hN := HN.out; subst hN; simp [ParMu, intOf]; omega⟩
    unfold ParI
    refine ⟨_, _, _, _, _, _, _, _, _, _, _, _, _, _, _, _, _, _, _, _, _, _, _, _, _, _, _, _, _, _, _, _, _, _, _, _, _, _, _, _, _, _, _, _, _, _, _, _, _, _, _, _, _, _, _, _, _, _, _, _, _, _, _, _, _, _, _, _, _, _, _, _, _, _, _, _, _, _, _, _, _, _, _, _, _, _, _, _, _, _, _, _, _, _, _, _, _, _, _, _, _, _, _, _, _, _, _, _, _, _, _, _, _, _, _, _, _, _, _, _, _, _, _, _, _, _, _, _, _, _, _, _, _, _, _, _, _, _, _, _, _, _, _, _, _, _, _, _, _, _, _, _, _, _, _, _, _, _, _, _, _, _, _, _, _, _, _, _, _, _, _, _, _, _, _, _, _, _, _, _, _, _, _, _, _, _, _, _, _, _, _, _, _, _, ?_, rfl⟩
    exact ⟨j + 2, _, by go_num, HX.out⟩
  · have he' : e = .returned (.tuple #[.int .i32 92, .int .i64 1]) := he
    subst he'
    clear he
    go_wp2_with fail
    refine (Tryf.Buffer_WriteRune_k w.heap.size w.heap.size _ 92 (by omega) (by omega) W2 HI2.out hsz2 (Lib.byteCells_one _) (by rw [Lib.byteCells_length]; omega)).mono ?_
    rintro e W3 ⟨rfl, h3, b3, -⟩
    have HX := Lib.hid (HNX.out W3 (by
      have := cells_snoc acc 92
      rw [show acc ++ escF 92 = acc ++ enc 92 from rfl, ← this]
      exact h3) (HB2.out.trans b3))
    clear h3 b3
    go_wp2
    refine ⟨?_, by have hN := HN.out; subst hN; simp [ParMu, intOf]; omega⟩
    unfold ParI
    refine ⟨_, _, _, _, _, _, _, _, _, _, _, _, _, _, _, _, _, _, _, _, _, _, _, _, _, _, _, _, _, _, _, _, _, _, _, _, _, _, _, _, _, _, _, _, _, _, _, _, _, _, _, _, _, _, _, _, _, _, _, _, _, _, _, _, _, _, _, _, _, _, _, _, _, _, _, _, _, _, _, _, _, _, _, _, _, _, _, _, _, _, _, _, _, _, _, _, _, _, _, _, _, _, _, _, _, _, _, _, _, _, _, _, _, _, _, _, _, _, _, _, _, _, _, _, _, _, _, _, _, _, _, _, _, _, _, _, _, _, _, _, _, _, _, _, _, _, _, _, _, _, _, _, _, _, _, _, _, _, _, _, _, _, _, _, _, _, _, _, _, _, _, _, _, _, _, _, _, _, _, _, _, _, _, _, _, _, _, _, _, _, _, _, _, _, ?_, rfl⟩
    exact ⟨j + 2, _, by go_num, HX.out⟩
  · have he' : e = .returned (.tuple #[.int .i32 47, .int .i64 1]) := he
    subst he'
    clear he
    go_wp2_with fail
    refine (Tryf.Buffer_WriteRune_k w.heap.size w.heap.size _ 47 (by omega) (by omega) W2 HI2.out hsz2 (Lib.byteCells_one _) (by rw [Lib.byteCells_length]; omega)).mono ?_
    rintro e W3 ⟨rfl, h3, b3, -⟩
    have HX := Lib.hid (HNX.out W3 (by
      have := cells_snoc acc 47
      rw [show acc ++ escF 47 = acc ++ enc 47 from rfl, ← this]
      exact h3) (HB2.out.trans b3))
    clear h3 b3
    go_wp2
    refine ⟨?_, by have hN := HN.out; subst hN; simp [ParMu, intOf]; omega⟩
    unfold ParI
    refine ⟨_, _, _, _, _, _, _, _, _, _, _, _, _, _, _, _, _, _, _, _, _, _, _, _, _, _, _, _, _, _, _, _, _, _, _, _, _, _, _, _, _, _, _, _, _, _, _, _, _, _, _, _, _, _, _, _, _, _, _, _, _, _, _, _, _, _, _, _, _, _, _, _, _, _, _, _, _, _, _, _, _, _, _, _, _, _, _, _, _, _, _, _, _, _, _, _, _, _, _, _, _, _, _, _, _, _, _, _, _, _, _, _, _, _, _, _, _, _, _, _, _, _, _, _, _, _, _, _, _, _, _, _, _, _, _, _, _, _, _, _, _, _, _, _, _, _, _, _, _, _, _, _, _, _, _, _, _, _, _, _, _, _, _, _, _, _, _, _, _, _, _, _, _, _, _, _, _, _, _, _, _, _, _, _, _, _, _, _, _, _, _, _, _, _, ?_, rfl⟩
    exact ⟨j + 2, _, by go_num, HX.out⟩
  · have he' : e = .returned (.tuple #[.int .i32 98, .int .i64 1]) := he
    subst he'
    clear he
    go_wp2_with fail
    refine (Tryf.Buffer_WriteRune_k w.heap.size w.heap.size _ 8 (by omega) (by omega) W2 HI2.out hsz2 (Lib.byteCells_one _) (by rw [Lib.byteCells_length]; omega)).mono ?_
    rintro e W3 ⟨rfl, h3, b3, -⟩
    have HX := Lib.hid (HNX.out W3 (by
      have := cells_snoc acc 8
      rw [show acc ++ escF 98 = acc ++ enc 8 from rfl, ← this]
      exact h3) (HB2.out.trans b3))
    clear h3 b3
    go_wp2
    refine ⟨?_, by have hN := HN.out; subst hN; simp [ParMu, intOf]; omega⟩
    unfold ParI
    refine ⟨_, _, _, _, _, _, _, _, _, _, _, _, _, _, _, _, _, _, _, _, _, _, _, _, _, _, _, _, _, _, _, _, _, _, _, _, _, _, _, _, _, _, _, _, _, _, _, _, _, _, _, _, _, _, _, _, _, _, _, _, _, _, _, _, _, _, _, _, _, _, _, _, _, _, _, _, _, _, _, _, _, _, _, _, _, _, _, _, _, _, _, _, _, _, _, _, _, _, _, _, _, _, _, _, _, _, _, _, _, _, _, _, _, _, _, _, _, _, _, _, _, _, _, _, _, _, _, _, _, _, _, _, _, _, _, _, _, _, _, _, _, _, _, _, _, _, _, _, _, _, _, _, _, _, _, _, _, _, _, _, _, _, _, _, _, _, _, _, _, _, _, _, _, _, _, _, _, _, _, _, _, _, _, _, _, _, _, _, _, _, _, _, _, _, ?_, rfl⟩
    exact ⟨j + 2, _, by go_num, HX.out⟩
  · have he' : e = .returned (.tuple #[.int .i32 102, .int .i64 1]) := he
    subst he'
    clear he
    go_wp2_with fail
    refine (Tryf.Buffer_WriteRune_k w.heap.size w.heap.size _ 12 (by omega) (by omega) W2 HI2.out hsz2 (Lib.byteCells_one _) (by rw [Lib.byteCells_length]; omega)).mono ?_
    rintro e W3 ⟨rfl, h3, b3, -⟩
    have HX := Lib.hid (HNX.out W3 (by
      have := cells_snoc acc 12
      rw [show acc ++ escF 102 = acc ++ enc 12 from rfl, ← this]
      exact h3) (HB2.out.trans b3))
    clear h3 b3
    go_wp2
    refine ⟨?_, by have hN := HN.out; subst hN; simp [ParMu, intOf]; omega⟩
    unfold ParI
    refine ⟨_, _, _, _, _, _, _, _, _, _, _, _, _, _, _, _, _, _, _, _, _, _, _, _, _, _, _, _, _, _, _, _, _, _, _, _, _, _, _, _, _, _, _, _, _, _, _, _, _, _, _, _, _, _, _, _, _, _, _, _, _, _, _, _, _, _, _, _, _, _, _, _, _, _, _, _, _, _, _, _, _, _, _, _, _, _, _, _, _, _, _, _, _, _, _, _, _, _, _, _, _, _, _, _, _, _, _, _, _, _, _, _, _, _, _, _, _, _, _, _, _, _, _, _, _, _, _, _, _, _, _, _, _, _, _, _, _, _, _, _, _, _, _, _, _, _, _, _, _, _, _, _, _, _, _, _, _, _, _, _, _, _, _, _, _, _, _, _, _, _, _, _, _, _, _, _, _, _, _, _, _, _, _, _, _, _, _, _, _, _, _, _, _, _, ?_, rfl⟩
    exact ⟨j + 2, _, by go_num, HX.out⟩
  · have he' : e = .returned (.tuple #[.int .i32 110, .int .i64 1]) := he
    subst he'
    clear he
    go_wp2_with fail
    refine (Tryf.Buffer_WriteRune_k w.heap.size w.heap.size _ 10 (by omega) (by omega) W2 HI2.out hsz2 (Lib.byteCells_one _) (by rw [Lib.byteCells_length]; omega)).mono ?_
    rintro e W3 ⟨rfl, h3, b3, -⟩
    have HX := Lib.hid (HNX.out W3 (by
      have := cells_snoc acc 10
      rw [show acc ++ escF 110 = acc ++ enc 10 from rfl, ← this]
      exact h3) (HB2.out.trans b3))
    clear h3 b3
    go_wp2
    refine ⟨?_, by have hN := HN.out; subst hN; simp [ParMu, intOf]; omega⟩
    unfold ParI
    refine ⟨_, _, _, _, _, _, _, _, _, _, _, _, _, _, _, _, _, _, _, _, _, _, _, _, _, _, _, _, _, _, _, _, _, _, _, _, _, _, _, _, _, _, _, _, _, _, _, _, _, _, _, _, _, _, _, _, _, _, _, _, _, _, _, _, _, _, _, _, _, _, _, _, _, _, _, _, _, _, _, _, _, _, _, _, _, _, _, _, _, _, _, _, _, _, _, _, _, _, _, _, _, _, _, _, _, _, _, _, _, _, _, _, _, _, _, _, _, _, _, _, _, _, _, _, _, _, _, _, _, _, _, _, _, _, _, _, _, _, _, _, _, _, _, _, _, _, _, _, _, _, _, _, _, _, _, _, _, _, _, _, _, _, _, _, _, _, _, _, _, _, _, _, _, _, _, _, _, _, _, _, _, _, _, _, _, _, _, _, _, _, _, _, _, _, ?_, rfl⟩
    exact ⟨j + 2, _, by go_num, HX.out⟩
  · have he' : e = .returned (.tuple #[.int .i32 114, .int .i64 1]) := he
    subst he'
    clear he
    go_wp2_with fail
    refine (Tryf.Buffer_WriteRune_k w.heap.size w.heap.size _ 13 (by omega) (by omega) W2 HI2.out hsz2 (Lib.byteCells_one _) (by rw [Lib.byteCells_length]; omega)).mono ?_
    rintro e W3 ⟨rfl, h3, b3, -⟩
    have HX := Lib.hid (HNX.out W3 (by
      have := cells_snoc acc 13
      rw [show acc ++ escF 114 = acc ++ enc 13 from rfl, ← this]
      exact h3) (HB2.out.trans b3))
    clear h3 b3
    go_wp2
    refine ⟨?_, by have hN := HN.out; subst hN; simp [ParMu, intOf]; omega⟩
    unfold ParI
    refine ⟨_, _, _, _, _, _, _, _, _, _, _, _, _, _, _, _, _, _, _, _, _, _, _, _, _, _, _, _, _, _, _, _, _, _, _, _, _, _, _, _, _, _, _, _, _, _, _, _, _, _, _, _, _, _, _, _, _, _, _, _, _, _, _, _, _, _, _, _, _, _, _, _, _, _, _, _, _, _, _, _, _, _, _, _, _, _, _, _, _, _, _, _, _, _, _, _, _, _, _, _, _, _, _, _, _, _, _, _, _, _, _, _, _, _, _, _, _, _, _, _, _, _, _, _, _, _, _, _, _, _, _, _, _, _, _, _, _, _, _, _, _, _, _, _, _, _, _, _, _, _, _, _, _, _, _, _, _, _, _, _, _, _, _, _, _, _, _, _, _, _, _, _, _, _, _, _, _, _, _, _, _, _, _, _, _, _, _, _, _, _, _, _, _, _, ?_, rfl⟩
    exact ⟨j + 2, _, by go_num, HX.out⟩
  · have he' : e = .returned (.tuple #[.int .i32 116, .int .i64 1]) := he
    subst he'
    clear he
    go_wp2_with fail
    refine (Tryf.Buffer_WriteRune_k w.heap.size w.heap.size _ 9 (by omega) (by omega) W2 HI2.out hsz2 (Lib.byteCells_one _) (by rw [Lib.byteCells_length]; omega)).mono ?_
    rintro e W3 ⟨rfl, h3, b3, -⟩
    have HX := Lib.hid (HNX.out W3 (by
      have := cells_snoc acc 9
      rw [show acc ++ escF 116 = acc ++ enc 9 from rfl, ← this]
      exact h3) (HB2.out.trans b3))
    clear h3 b3
    go_wp2
    refine ⟨?_, by have hN := HN.out; subst hN; simp [ParMu, intOf]; omega⟩
    unfold ParI
    refine ⟨_, _, _, _, _, _, _, _, _, _, _, _, _, _, _, _, _, _, _, _, _, _, _, _, _, _, _, _, _, _, _, _, _, _, _, _, _, _, _, _, _, _, _, _, _, _, _, _, _, _, _, _, _, _, _, _, _, _, _, _, _, _, _, _, _, _, _, _, _, _, _, _, _, _, _, _, _, _, _, _, _, _, _, _, _, _, _, _, _, _, _, _, _, _, _, _, _, _, _, _, _, _, _, _, _, _, _, _, _, _, _, _, _, _, _, _, _, _, _, _, _, _, _, _, _, _, _, _, _, _, _, _, _, _, _, _, _, _, _, _, _, _, _, _, _, _, _, _, _, _, _, _, _, _, _, _, _, _, _, _, _, _, _, _, _, _, _, _, _, _, _, _, _, _, _, _, _, _, _, _, _, _, _, _, _, _, _, _, _, _, _, _, _, _, ?_, rfl⟩
    exact ⟨j + 2, _, by go_num, HX.out⟩
end Go.Proofs.YtceepfnjdkfjnaaFmt
