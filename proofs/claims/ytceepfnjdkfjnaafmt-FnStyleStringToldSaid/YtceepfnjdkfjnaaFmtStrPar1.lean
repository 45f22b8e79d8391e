/-
  A round of parser.StringUnescape's loop: way 1. Conditions: what stands there.
-/
import Derived.Test.YtceepfnjdkfjnaaFmtStrPar0
namespace Go.Proofs.YtceepfnjdkfjnaaFmt
open Go.ChangeShapes Go.WideShapes Go.ChangeAt Go.RowKit Go.Joins
set_option maxHeartbeats 8000000 in
set_option maxRecDepth 1000000 in
theorem par_one (loc : Value) (s : ByteArray) (hs : s.size ≤ 400) (w : World) (HT : Hid (Lib.Utf8Tabs 0 1 w)) (_HE : Hid (∃ ev, w.cell? ⟨3, 0, none⟩ = some ev)) (j : Nat) (acc : List UInt8) (wr : World) (HA : Hid (At s w j acc wr)) (hjl : j < s.size)
    (r : Nat) (t : List UInt8) (h92 : r ≠ 92) (hs1 : Sc r) (ht : Val t) (e0 : s.data.toList.drop j = enc r ++ t) (e1 : unL (s.data.toList.drop j) = ((unL t).1, enc r ++ (unL t).2))
    (N : Nat) (hN : N = s.size - j) (Q0 : Exit → Act → World → Prop) (u4 u5 u8 u9 u10 u11 u12 u13 u14 u15 u16 u17 u18 u19 u20 u21 u22 u23 u24 u25 u26 u27 u28 u29 u30 u31 u32 u33 u34 u35 u36 u37 u38 u39 u40 u41 u42 u43 u44 u45 u46 u47 u48 u49 u50 u51 u52 u53 u54 u55 u56 u57 u58 u59 u60 u61 u62 u63 u64 u65 u66 u67 u68 u69 u70 u71 u72 u73 u74 u75 u76 u77 u78 u79 u80 u81 u82 u83 u84 u85 u86 u87 u88 u89 u90 u91 u92 u93 u94 u95 u96 u97 u98 u99 u100 u101 u102 u103 u104 u105 u106 u107 u108 u109 u110 u111 u112 u113 u114 u115 u116 u117 u118 u119 u120 u121 u122 u123 u124 u125 u126 u127 u128 u129 u130 u131 u132 u133 u134 u135 u136 u137 u138 u139 u140 u141 u142 u143 u144 u145 u146 u147 u148 u149 u150 u151 u152 u153 u154 u155 u156 u157 u158 u159 u160 u161 u162 u163 u164 u165 u166 u167 u168 u169 u170 u171 u172 u173 u174 u175 u176 u177 u178 u179 u180 u181 u182 u183 u184 u185 u186 u187 u188 u189 u190 u191 u192 u193 u194 u195 u196 u197 u198 : Value) :
    Code.wp Tryf.prog parBody (Exit.then (fun a' w'' => ParI loc s w a' w'' ∧ ParMu s a' w'' < N) Q0) ⟨#[loc, .string s, undef, undef, u4, u5, .pointer (some ⟨w.heap.size, 0, none⟩), .int .i64 j, u8, u9, u10, u11, u12, u13, u14, u15, u16, u17, u18, u19, u20, u21, u22, u23, u24, u25, u26, u27, u28, u29, u30, u31, u32, u33, u34, u35, u36, u37, u38, u39, u40, u41, u42, u43, u44, u45, u46, u47, u48, u49, u50, u51, u52, u53, u54, u55, u56, u57, u58, u59, u60, u61, u62, u63, u64, u65, u66, u67, u68, u69, u70, u71, u72, u73, u74, u75, u76, u77, u78, u79, u80, u81, u82, u83, u84, u85, u86, u87, u88, u89, u90, u91, u92, u93, u94, u95, u96, u97, u98, u99, u100, u101, u102, u103, u104, u105, u106, u107, u108, u109, u110, u111, u112, u113, u114, u115, u116, u117, u118, u119, u120, u121, u122, u123, u124, u125, u126, u127, u128, u129, u130, u131, u132, u133, u134, u135, u136, u137, u138, u139, u140, u141, u142, u143, u144, u145, u146, u147, u148, u149, u150, u151, u152, u153, u154, u155, u156, u157, u158, u159, u160, u161, u162, u163, u164, u165, u166, u167, u168, u169, u170, u171, u172, u173, u174, u175, u176, u177, u178, u179, u180, u181, u182, u183, u184, u185, u186, u187, u188, u189, u190, u191, u192, u193, u194, u195, u196, u197, u198], []⟩ wr := by
  conv => arg 2; whnf
  have HN := Lib.hid hN; clear hN
  have hj := HA.out.le
  have hsz := HA.out.bel.size
  have hac := HA.out.len
  have HTr := Lib.hid (Utf8Tabs_below HT.out (HA.out.bel.mono (Nat.le_refl _)))
  have HDG := Lib.hid (dec_at hs1 e0)
  have hlen : j + (enc r).length ≤ s.size := by
    have := congrArg List.length e0
    rw [List.length_drop, ← Lib.size_eq, List.length_append] at this
    omega
  have hrm : r ≤ 1114111 := hs1.1
  have hle := List.length_pos_iff.2 (enc_ne r)
  have hdt : s.data.toList.drop (j + (enc r).length) = t := by rw [← List.drop_drop, e0, List.drop_left]
  have d : ((r : Int) == 92) = false := by rw [beq_eq_false_iff_ne]; omega
  have HNX := Lib.hid (fun (w2 : World) (hbuf : Lib.IsBuffer 175 5 w.heap.size w.heap.size (Lib.byteCells (acc ++ enc r)) w2) (hb : Below w.heap.size w w2) => (show At s w (j + (enc r).length) (acc ++ enc r) w2 from
    ⟨hlen, hbuf, hb, by rw [hdt]; exact ht, HA.out.un.step (by rw [hdt]; exact e1), by have := HA.out.ok; rw [e1] at this; rw [hdt]; exact this, by rw [List.length_append]; omega⟩))
  obtain ⟨L, hL⟩ : ∃ L, (enc r).length = L := ⟨_, rfl⟩
  rw [hL] at HDG hlen HNX hle
  clear hdt e0 e1 hs1 h92 hL
  go_wp2_with fail
  refine (Tryf.utf8_DecodeRuneInString (s.extract j s.size) wr HTr.out).mono ?_
  rintro e W1 ⟨he, hb1⟩
  rw [HDG.out] at he
  subst he
  have HB1 := Lib.hid (HA.out.bel.trans (hb1.mono hsz))
  have HI1 := Lib.hid (isbuf_below HA.out.buf hb1)
  clear hb1
  have hsz1 := HB1.out.size
  go_wp2_with fail
  refine (Tryf.Buffer_WriteRune_k w.heap.size w.heap.size _ (r : Int) (by omega) (by omega) W1 HI1.out hsz1 (Lib.byteCells_one _) (by rw [Lib.byteCells_length]; omega)).mono ?_
  rintro e W2 ⟨rfl, h2, b2, -⟩
  have HX := Lib.hid (HNX.out W2 (by rw [← cells_snoc]; exact h2) (HB1.out.trans b2))
  clear h2 b2
  go_wp2
  refine ⟨?_, by have hN := HN.out; subst hN; simp [ParMu, intOf]; omega⟩
  unfold ParI
  refine ⟨_, _, _, _, _, _, _, _, _, _, _, _, _, _, _, _, _, _, _, _, _, _, _, _, _, _, _, _, _, _, _, _, _, _, _, _, _, _, _, _, _, _, _, _, _, _, _, _, _, _, _, _, _, _, _, _, _, _, _, _, _, _, _, _, _, _, _, _, _, _, _, _, _, _, _, _, _, _, _, _, _, _, _, _, _, _, _, _, _, _, _, _, _, _, _, _, _, _, _, _, _, _, _, _, _, _, _, _, _, _, _, _, _, _, _, _, _, _, _, _, _, _, _, _, _, _, _, _, _, _, _, _, _, _, _, _, _, _, _, _, _, _, _, _, _, _, _, _, _, _, _, _, _, _, _, _, _, _, _, _, _, _, _, _, _, _, _, _, _, _, _, _, _, _, _, _, _, _, _, _, _, _, _, _, _, _, _, _, _, _, _, _, _, _, ?_, rfl⟩
  exact ⟨j + L, acc ++ enc r, by go_num, HX.out⟩
end Go.Proofs.YtceepfnjdkfjnaaFmt
