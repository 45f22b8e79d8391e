/-
  parser.StringUnescape's loop: its body, its invariant, its measure. Conditions: none.
-/
import Derived.Test.YtceepfnjdkfjnaaFmtStrKit
import Derived.Test.YtceepfnjdkfjnaaFmtStrU16
import Derived.BigQuiet
namespace Go.Proofs.YtceepfnjdkfjnaaFmt
open Go.ChangeShapes Go.WideShapes Go.ChangeAt Go.RowKit Go.Joins
theorem esc_nine {e : UInt8} (h : escF e ≠ []) : e = 34 ∨ e = 39 ∨ e = 92 ∨ e = 47 ∨ e = 98 ∨ e = 102 ∨ e = 110 ∨ e = 114 ∨ e = 116 := by
  unfold escF at h
  by_cases h1 : e = 34 ∨ e = 39 ∨ e = 92 ∨ e = 47
  · rcases h1 with h | h | h | h <;> simp [h]
  rw [if_neg h1] at h
  by_cases h2 : e = 98
  · simp [h2]
  rw [if_neg h2] at h
  by_cases h3 : e = 102
  · simp [h3]
  rw [if_neg h3] at h
  by_cases h4 : e = 110
  · simp [h4]
  rw [if_neg h4] at h
  by_cases h5 : e = 114
  · simp [h5]
  rw [if_neg h5] at h
  by_cases h6 : e = 116
  · simp [h6]
  rw [if_neg h6] at h
  exact absurd rfl h
/-- What holds at the head of a round. -/
structure At (s : ByteArray) (w : World) (j : Nat) (acc : List UInt8) (wr : World) : Prop where
  le : j ≤ s.size
  buf : Lib.IsBuffer 175 5 w.heap.size w.heap.size (Lib.byteCells acc) wr
  bel : Below w.heap.size w wr
  val : Val (s.data.toList.drop j)
  un : UnAt s j acc
  ok : (unL (s.data.toList.drop j)).1 = 1
  len : acc.length ≤ j
/-- The body of the first loop. -/
def firstLoop : Code → Option Code
  | .loop c => some c
  | .seq a b => match firstLoop a with
    | some c => some c
    | none => firstLoop b
  | .block _ c => firstLoop c
  | .scope c => firstLoop c
  | .cond _ a b => match firstLoop a with
    | some c => some c
    | none => firstLoop b
  | _ => none
noncomputable def parBody : Code := ((Tryf.f25.body.bind firstLoop).getD .skip)
set_option maxRecDepth 1000000 in
/-- What holds of the frame at the head of a round. -/
def ParI (loc : Value) (s : ByteArray) (w : World) (a : Act) (wr : World) : Prop :=
  ∃ u4 u5 u7 u8 u9 u10 u11 u12 u13 u14 u15 u16 u17 u18 u19 u20 u21 u22 u23 u24 u25 u26 u27 u28 u29 u30 u31 u32 u33 u34 u35 u36 u37 u38 u39 u40 u41 u42 u43 u44 u45 u46 u47 u48 u49 u50 u51 u52 u53 u54 u55 u56 u57 u58 u59 u60 u61 u62 u63 u64 u65 u66 u67 u68 u69 u70 u71 u72 u73 u74 u75 u76 u77 u78 u79 u80 u81 u82 u83 u84 u85 u86 u87 u88 u89 u90 u91 u92 u93 u94 u95 u96 u97 u98 u99 u100 u101 u102 u103 u104 u105 u106 u107 u108 u109 u110 u111 u112 u113 u114 u115 u116 u117 u118 u119 u120 u121 u122 u123 u124 u125 u126 u127 u128 u129 u130 u131 u132 u133 u134 u135 u136 u137 u138 u139 u140 u141 u142 u143 u144 u145 u146 u147 u148 u149 u150 u151 u152 u153 u154 u155 u156 u157 u158 u159 u160 u161 u162 u163 u164 u165 u166 u167 u168 u169 u170 u171 u172 u173 u174 u175 u176 u177 u178 u179 u180 u181 u182 u183 u184 u185 u186 u187 u188 u189 u190 u191 u192 u193 u194 u195 u196 u197 u198 : Value, (∃ (j : Nat) (acc : List UInt8), u7 = .int .i64 j ∧ At s w j acc wr) ∧ a = ⟨#[loc, .string s, undef, undef, u4, u5, .pointer (some ⟨w.heap.size, 0, none⟩), u7, u8, u9, u10, u11, u12, u13, u14, u15, u16, u17, u18, u19, u20, u21, u22, u23, u24, u25, u26, u27, u28, u29, u30, u31, u32, u33, u34, u35, u36, u37, u38, u39, u40, u41, u42, u43, u44, u45, u46, u47, u48, u49, u50, u51, u52, u53, u54, u55, u56, u57, u58, u59, u60, u61, u62, u63, u64, u65, u66, u67, u68, u69, u70, u71, u72, u73, u74, u75, u76, u77, u78, u79, u80, u81, u82, u83, u84, u85, u86, u87, u88, u89, u90, u91, u92, u93, u94, u95, u96, u97, u98, u99, u100, u101, u102, u103, u104, u105, u106, u107, u108, u109, u110, u111, u112, u113, u114, u115, u116, u117, u118, u119, u120, u121, u122, u123, u124, u125, u126, u127, u128, u129, u130, u131, u132, u133, u134, u135, u136, u137, u138, u139, u140, u141, u142, u143, u144, u145, u146, u147, u148, u149, u150, u151, u152, u153, u154, u155, u156, u157, u158, u159, u160, u161, u162, u163, u164, u165, u166, u167, u168, u169, u170, u171, u172, u173, u174, u175, u176, u177, u178, u179, u180, u181, u182, u183, u184, u185, u186, u187, u188, u189, u190, u191, u192, u193, u194, u195, u196, u197, u198], []⟩
set_option maxRecDepth 1000000 in
/-- What holds behind the loop. -/
def ParX (loc : Value) (s : ByteArray) (w : World) (a : Act) (wr : World) : Prop :=
  ∃ u4 u5 u8 u9 u10 u11 u12 u13 u14 u15 u16 u17 u18 u19 u20 u21 u22 u23 u24 u25 u26 u27 u28 u29 u30 u31 u32 u33 u34 u35 u36 u37 u38 u39 u40 u41 u42 u43 u44 u45 u46 u47 u48 u49 u50 u51 u52 u53 u54 u55 u56 u57 u58 u59 u60 u61 u62 u63 u64 u65 u66 u67 u68 u69 u70 u71 u72 u73 u74 u75 u76 u77 u78 u79 u80 u81 u82 u83 u84 u85 u86 u87 u88 u89 u90 u91 u92 u93 u94 u95 u96 u97 u98 u99 u100 u101 u102 u103 u104 u105 u106 u107 u108 u109 u110 u111 u112 u113 u114 u115 u116 u117 u118 u119 u120 u121 u122 u123 u124 u125 u126 u127 u128 u129 u130 u131 u132 u133 u134 u135 u136 u137 u138 u139 u140 u141 u142 u143 u144 u145 u146 u147 u148 u149 u150 u151 u152 u153 u154 u155 u156 u157 u158 u159 u160 u161 u162 u163 u164 u165 u166 u167 u168 u169 u170 u171 u172 u173 u174 u175 u176 u177 u178 u179 u180 u181 u182 u183 u184 u185 u186 u187 u188 u189 u190 u191 u192 u193 u194 u195 u196 u197 u198 : Value, (∃ (acc : List UInt8), At s w s.size acc wr) ∧ a = ⟨#[loc, .string s, undef, undef, u4, u5, .pointer (some ⟨w.heap.size, 0, none⟩), .int .i64 s.size, u8, u9, u10, u11, u12, u13, u14, u15, u16, u17, u18, u19, u20, u21, u22, u23, u24, u25, u26, u27, u28, u29, u30, u31, u32, u33, u34, u35, u36, u37, u38, u39, u40, u41, u42, u43, u44, u45, u46, u47, u48, u49, u50, u51, u52, u53, u54, u55, u56, u57, u58, u59, u60, u61, u62, u63, u64, u65, u66, u67, u68, u69, u70, u71, u72, u73, u74, u75, u76, u77, u78, u79, u80, u81, u82, u83, u84, u85, u86, u87, u88, u89, u90, u91, u92, u93, u94, u95, u96, u97, u98, u99, u100, u101, u102, u103, u104, u105, u106, u107, u108, u109, u110, u111, u112, u113, u114, u115, u116, u117, u118, u119, u120, u121, u122, u123, u124, u125, u126, u127, u128, u129, u130, u131, u132, u133, u134, u135, u136, u137, u138, u139, u140, u141, u142, u143, u144, u145, u146, u147, u148, u149, u150, u151, u152, u153, u154, u155, u156, u157, u158, u159, u160, u161, u162, u163, u164, u165, u166, u167, u168, u169, u170, u171, u172, u173, u174, u175, u176, u177, u178, u179, u180, u181, u182, u183, u184, u185, u186, u187, u188, u189, u190, u191, u192, u193, u194, u195, u196, u197, u198], []⟩
/-- The measure. -/
def ParMu (s : ByteArray) (a : Act) (_ : World) : Nat := s.size - (intOf (a.tmps.getD 7 undef)).toNat
end Go.Proofs.YtceepfnjdkfjnaaFmt
