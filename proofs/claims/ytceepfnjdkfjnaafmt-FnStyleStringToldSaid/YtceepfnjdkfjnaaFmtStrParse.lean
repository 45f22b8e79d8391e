/-
  parser.StringUnescape at fine texts. Conditions: the text's length; it is one of whole characters, and fine.
-/
import Derived.Test.YtceepfnjdkfjnaaFmtStrPar1
import Derived.Test.YtceepfnjdkfjnaaFmtStrPar2
import Derived.Test.YtceepfnjdkfjnaaFmtStrPar3
import Derived.Test.YtceepfnjdkfjnaaFmtStrPar4
namespace Go.Proofs.YtceepfnjdkfjnaaFmt
open Go.ChangeShapes Go.WideShapes Go.ChangeAt Go.RowKit Go.Joins
set_option maxHeartbeats 8000000 in
set_option maxRecDepth 1000000 in
theorem par_end (loc : Value) (s : ByteArray) (w : World) (acc : List UInt8) (wr : World) (HA : Hid (At s w s.size acc wr))
    (N : Nat) (Q0 : Exit → Act → World → Prop) (hexit : ∀ a' w'', ParX loc s w a' w'' → Q0 (.exit 0) a' w'') (u4 u5 u8 u9 u10 u11 u12 u13 u14 u15 u16 u17 u18 u19 u20 u21 u22 u23 u24 u25 u26 u27 u28 u29 u30 u31 u32 u33 u34 u35 u36 u37 u38 u39 u40 u41 u42 u43 u44 u45 u46 u47 u48 u49 u50 u51 u52 u53 u54 u55 u56 u57 u58 u59 u60 u61 u62 u63 u64 u65 u66 u67 u68 u69 u70 u71 u72 u73 u74 u75 u76 u77 u78 u79 u80 u81 u82 u83 u84 u85 u86 u87 u88 u89 u90 u91 u92 u93 u94 u95 u96 u97 u98 u99 u100 u101 u102 u103 u104 u105 u106 u107 u108 u109 u110 u111 u112 u113 u114 u115 u116 u117 u118 u119 u120 u121 u122 u123 u124 u125 u126 u127 u128 u129 u130 u131 u132 u133 u134 u135 u136 u137 u138 u139 u140 u141 u142 u143 u144 u145 u146 u147 u148 u149 u150 u151 u152 u153 u154 u155 u156 u157 u158 u159 u160 u161 u162 u163 u164 u165 u166 u167 u168 u169 u170 u171 u172 u173 u174 u175 u176 u177 u178 u179 u180 u181 u182 u183 u184 u185 u186 u187 u188 u189 u190 u191 u192 u193 u194 u195 u196 u197 u198 : Value) :
    Code.wp Tryf.prog parBody (Exit.then (fun a' w'' => ParI loc s w a' w'' ∧ ParMu s a' w'' < N) Q0) ⟨#[loc, .string s, undef, undef, u4, u5, .pointer (some ⟨w.heap.size, 0, none⟩), .int .i64 s.size, u8, u9, u10, u11, u12, u13, u14, u15, u16, u17, u18, u19, u20, u21, u22, u23, u24, u25, u26, u27, u28, u29, u30, u31, u32, u33, u34, u35, u36, u37, u38, u39, u40, u41, u42, u43, u44, u45, u46, u47, u48, u49, u50, u51, u52, u53, u54, u55, u56, u57, u58, u59, u60, u61, u62, u63, u64, u65, u66, u67, u68, u69, u70, u71, u72, u73, u74, u75, u76, u77, u78, u79, u80, u81, u82, u83, u84, u85, u86, u87, u88, u89, u90, u91, u92, u93, u94, u95, u96, u97, u98, u99, u100, u101, u102, u103, u104, u105, u106, u107, u108, u109, u110, u111, u112, u113, u114, u115, u116, u117, u118, u119, u120, u121, u122, u123, u124, u125, u126, u127, u128, u129, u130, u131, u132, u133, u134, u135, u136, u137, u138, u139, u140, u141, u142, u143, u144, u145, u146, u147, u148, u149, u150, u151, u152, u153, u154, u155, u156, u157, u158, u159, u160, u161, u162, u163, u164, u165, u166, u167, u168, u169, u170, u171, u172, u173, u174, u175, u176, u177, u178, u179, u180, u181, u182, u183, u184, u185, u186, u187, u188, u189, u190, u191, u192, u193, u194, u195, u196, u197, u198], []⟩ wr := by
  conv => arg 2; whnf
  have hsz := HA.out.bel.size
  go_wp2
  unfold ParX
  refine ⟨_, _, _, _, _, _, _, _, _, _, _, _, _, _, _, _, _, _, _, _, _, _, _, _, _, _, _, _, _, _, _, _, _, _, _, _, _, _, _, _, _, _, _, _, _, _, _, _, _, _, _, _, _, _, _, _, _, _, _, _, _, _, _, _, _, _, _, _, _, _, _, _, _, _, _, _, _, _, _, _, _, _, _, _, _, _, _, _, _, _, _, _, _, _, _, _, _, _, _, _, _, _, _, _, _, _, _, _, _, _, _, _, _, _, _, _, _, _, _, _, _, _, _, _, _, _, _, _, _, _, _, _, _, _, _, _, _, _, _, _, _, _, _, _, _, _, _, _, _, _, _, _, _, _, _, _, _, _, _, _, _, _, _, _, _, _, _, _, _, _, _, _, _, _, _, _, _, _, _, _, _, _, _, _, _, _, _, _, _, _, _, _, _, ⟨acc, HA.out⟩, rfl⟩
set_option maxHeartbeats 8000000 in
set_option maxRecDepth 1000000 in
theorem par_round (loc : Value) (s : ByteArray) (hs : s.size ≤ 400) (w : World) (HT : Hid (Lib.Utf8Tabs 0 1 w)) (HE : Hid (∃ ev, w.cell? ⟨3, 0, none⟩ = some ev)) (Q0 : Exit → Act → World → Prop) (hexit : ∀ a' w'', ParX loc s w a' w'' → Q0 (.exit 0) a' w'') (a : Act) (wr : World) (hI : ParI loc s w a wr) :
    Code.wp Tryf.prog parBody (Exit.then (fun a' w'' => ParI loc s w a' w'' ∧ ParMu s a' w'' < ParMu s a wr) Q0) a wr := by
  unfold ParI at hI
  obtain ⟨u4, hI⟩ := hI
  obtain ⟨u5, hI⟩ := hI
  obtain ⟨u7, hI⟩ := hI
  obtain ⟨u8, hI⟩ := hI
  obtain ⟨u9, hI⟩ := hI
  obtain ⟨u10, hI⟩ := hI
  obtain ⟨u11, hI⟩ := hI
  obtain ⟨u12, hI⟩ := hI
  obtain ⟨u13, hI⟩ := hI
  obtain ⟨u14, hI⟩ := hI
  obtain ⟨u15, hI⟩ := hI
  obtain ⟨u16, hI⟩ := hI
  obtain ⟨u17, hI⟩ := hI
  obtain ⟨u18, hI⟩ := hI
  obtain ⟨u19, hI⟩ := hI
  obtain ⟨u20, hI⟩ := hI
  obtain ⟨u21, hI⟩ := hI
  obtain ⟨u22, hI⟩ := hI
  obtain ⟨u23, hI⟩ := hI
  obtain ⟨u24, hI⟩ := hI
  obtain ⟨u25, hI⟩ := hI
  obtain ⟨u26, hI⟩ := hI
  obtain ⟨u27, hI⟩ := hI
  obtain ⟨u28, hI⟩ := hI
  obtain ⟨u29, hI⟩ := hI
  obtain ⟨u30, hI⟩ := hI
  obtain ⟨u31, hI⟩ := hI
  obtain ⟨u32, hI⟩ := hI
  obtain ⟨u33, hI⟩ := hI
  obtain ⟨u34, hI⟩ := hI
  obtain ⟨u35, hI⟩ := hI
  obtain ⟨u36, hI⟩ := hI
  obtain ⟨u37, hI⟩ := hI
  obtain ⟨u38, hI⟩ := hI
  obtain ⟨u39, hI⟩ := hI
  obtain ⟨u40, hI⟩ := hI
  obtain ⟨u41, hI⟩ := hI
  obtain ⟨u42, hI⟩ := hI
  obtain ⟨u43, hI⟩ := hI
  obtain ⟨u44, hI⟩ := hI
  obtain ⟨u45, hI⟩ := hI
  obtain ⟨u46, hI⟩ := hI
  obtain ⟨u47, hI⟩ := hI
  obtain ⟨u48, hI⟩ := hI
  obtain ⟨u49, hI⟩ := hI
  obtain ⟨u50, hI⟩ := hI
  obtain ⟨u51, hI⟩ := hI
  obtain ⟨u52, hI⟩ := hI
  obtain ⟨u53, hI⟩ := hI
  obtain ⟨u54, hI⟩ := hI
  obtain ⟨u55, hI⟩ := hI
  obtain ⟨u56, hI⟩ := hI
  obtain ⟨u57, hI⟩ := hI
  obtain ⟨u58, hI⟩ := hI
  obtain ⟨u59, hI⟩ := hI
  obtain ⟨u60, hI⟩ := hI
  obtain ⟨u61, hI⟩ := hI
  obtain ⟨u62, hI⟩ := hI
  obtain ⟨u63, hI⟩ := hI
  obtain ⟨u64, hI⟩ := hI
  obtain ⟨u65, hI⟩ := hI
  obtain ⟨u66, hI⟩ := hI
  obtain ⟨u67, hI⟩ := hI
  obtain ⟨u68, hI⟩ := hI
  obtain ⟨u69, hI⟩ := hI
  obtain ⟨u70, hI⟩ := hI
  obtain ⟨u71, hI⟩ := hI
  obtain ⟨u72, hI⟩ := hI
  obtain ⟨u73, hI⟩ := hI
  obtain ⟨u74, hI⟩ := hI
  obtain ⟨u75, hI⟩ := hI
  obtain ⟨u76, hI⟩ := hI
  obtain ⟨u77, hI⟩ := hI
  obtain ⟨u78, hI⟩ := hI
  obtain ⟨u79, hI⟩ := hI
  obtain ⟨u80, hI⟩ := hI
  obtain ⟨u81, hI⟩ := hI
  obtain ⟨u82, hI⟩ := hI
  obtain ⟨u83, hI⟩ := hI
  obtain ⟨u84, hI⟩ := hI
  obtain ⟨u85, hI⟩ := hI
  obtain ⟨u86, hI⟩ := hI
  obtain ⟨u87, hI⟩ := hI
  obtain ⟨u88, hI⟩ := hI
  obtain ⟨u89, hI⟩ := hI
  obtain ⟨u90, hI⟩ := hI
  obtain ⟨u91, hI⟩ := hI
  obtain ⟨u92, hI⟩ := hI
  obtain ⟨u93, hI⟩ := hI
  obtain ⟨u94, hI⟩ := hI
  obtain ⟨u95, hI⟩ := hI
  obtain ⟨u96, hI⟩ := hI
  obtain ⟨u97, hI⟩ := hI
  obtain ⟨u98, hI⟩ := hI
  obtain ⟨u99, hI⟩ := hI
  obtain ⟨u100, hI⟩ := hI
  obtain ⟨u101, hI⟩ := hI
  obtain ⟨u102, hI⟩ := hI
  obtain ⟨u103, hI⟩ := hI
  obtain ⟨u104, hI⟩ := hI
  obtain ⟨u105, hI⟩ := hI
  obtain ⟨u106, hI⟩ := hI
  obtain ⟨u107, hI⟩ := hI
  obtain ⟨u108, hI⟩ := hI
  obtain ⟨u109, hI⟩ := hI
  obtain ⟨u110, hI⟩ := hI
  obtain ⟨u111, hI⟩ := hI
  obtain ⟨u112, hI⟩ := hI
  obtain ⟨u113, hI⟩ := hI
  obtain ⟨u114, hI⟩ := hI
  obtain ⟨u115, hI⟩ := hI
  obtain ⟨u116, hI⟩ := hI
  obtain ⟨u117, hI⟩ := hI
  obtain ⟨u118, hI⟩ := hI
  obtain ⟨u119, hI⟩ := hI
  obtain ⟨u120, hI⟩ := hI
  obtain ⟨u121, hI⟩ := hI
  obtain ⟨u122, hI⟩ := hI
  obtain ⟨u123, hI⟩ := hI
  obtain ⟨u124, hI⟩ := hI
  obtain ⟨u125, hI⟩ := hI
  obtain ⟨u126, hI⟩ := hI
  obtain ⟨u127, hI⟩ := hI
  obtain ⟨u128, hI⟩ := hI
  obtain ⟨u129, hI⟩ := hI
  obtain ⟨u130, hI⟩ := hI
  obtain ⟨u131, hI⟩ := hI
  obtain ⟨u132, hI⟩ := hI
  obtain ⟨u133, hI⟩ := hI
  obtain ⟨u134, hI⟩ := hI
  obtain ⟨u135, hI⟩ := hI
  obtain ⟨u136, hI⟩ := hI
  obtain ⟨u137, hI⟩ := hI
  obtain ⟨u138, hI⟩ := hI
  obtain ⟨u139, hI⟩ := hI
  obtain ⟨u140, hI⟩ := hI
  obtain ⟨u141, hI⟩ := hI
  obtain ⟨u142, hI⟩ := hI
  obtain ⟨u143, hI⟩ := hI
  obtain ⟨u144, hI⟩ := hI
  obtain ⟨u145, hI⟩ := hI
  obtain ⟨u146, hI⟩ := hI
  obtain ⟨u147, hI⟩ := hI
  obtain ⟨u148, hI⟩ := hI
  obtain ⟨u149, hI⟩ := hI
  obtain ⟨u150, hI⟩ := hI
  obtain ⟨u151, hI⟩ := hI
  obtain ⟨u152, hI⟩ := hI
  obtain ⟨u153, hI⟩ := hI
  obtain ⟨u154, hI⟩ := hI
  obtain ⟨u155, hI⟩ := hI
  obtain ⟨u156, hI⟩ := hI
  obtain ⟨u157, hI⟩ := hI
  obtain ⟨u158, hI⟩ := hI
  obtain ⟨u159, hI⟩ := hI
  obtain ⟨u160, hI⟩ := hI
  obtain ⟨u161, hI⟩ := hI
  obtain ⟨u162, hI⟩ := hI
  obtain ⟨u163, hI⟩ := hI
  obtain ⟨u164, hI⟩ := hI
  obtain ⟨u165, hI⟩ := hI
  obtain ⟨u166, hI⟩ := hI
  obtain ⟨u167, hI⟩ := hI
  obtain ⟨u168, hI⟩ := hI
  obtain ⟨u169, hI⟩ := hI
  obtain ⟨u170, hI⟩ := hI
  obtain ⟨u171, hI⟩ := hI
  obtain ⟨u172, hI⟩ := hI
  obtain ⟨u173, hI⟩ := hI
  obtain ⟨u174, hI⟩ := hI
  obtain ⟨u175, hI⟩ := hI
  obtain ⟨u176, hI⟩ := hI
  obtain ⟨u177, hI⟩ := hI
  obtain ⟨u178, hI⟩ := hI
  obtain ⟨u179, hI⟩ := hI
  obtain ⟨u180, hI⟩ := hI
  obtain ⟨u181, hI⟩ := hI
  obtain ⟨u182, hI⟩ := hI
  obtain ⟨u183, hI⟩ := hI
  obtain ⟨u184, hI⟩ := hI
  obtain ⟨u185, hI⟩ := hI
  obtain ⟨u186, hI⟩ := hI
  obtain ⟨u187, hI⟩ := hI
  obtain ⟨u188, hI⟩ := hI
  obtain ⟨u189, hI⟩ := hI
  obtain ⟨u190, hI⟩ := hI
  obtain ⟨u191, hI⟩ := hI
  obtain ⟨u192, hI⟩ := hI
  obtain ⟨u193, hI⟩ := hI
  obtain ⟨u194, hI⟩ := hI
  obtain ⟨u195, hI⟩ := hI
  obtain ⟨u196, hI⟩ := hI
  obtain ⟨u197, hI⟩ := hI
  obtain ⟨u198, hI⟩ := hI
  obtain ⟨⟨j, acc, rfl, hat⟩, rfl⟩ := hI
  have HA := Lib.hid hat
  by_cases hjl : j < s.size
  · have HC := unL_cases hat.val (drop_ne hjl) hat.ok
    rcases HC with ⟨r, t, h92, hs1, ht, e0, e1⟩ | ⟨x, t, hx, hx2, ht, e0, e1⟩ | ⟨t, h0, hsr, ht, e0, e1⟩ | ⟨t, u, h1, h2, hd, h3, h4, ht, e0, e1⟩
    · exact par_one loc s hs w HT HE j acc wr HA hjl r t h92 hs1 ht e0 e1 _ rfl Q0 u4 u5 u8 u9 u10 u11 u12 u13 u14 u15 u16 u17 u18 u19 u20 u21 u22 u23 u24 u25 u26 u27 u28 u29 u30 u31 u32 u33 u34 u35 u36 u37 u38 u39 u40 u41 u42 u43 u44 u45 u46 u47 u48 u49 u50 u51 u52 u53 u54 u55 u56 u57 u58 u59 u60 u61 u62 u63 u64 u65 u66 u67 u68 u69 u70 u71 u72 u73 u74 u75 u76 u77 u78 u79 u80 u81 u82 u83 u84 u85 u86 u87 u88 u89 u90 u91 u92 u93 u94 u95 u96 u97 u98 u99 u100 u101 u102 u103 u104 u105 u106 u107 u108 u109 u110 u111 u112 u113 u114 u115 u116 u117 u118 u119 u120 u121 u122 u123 u124 u125 u126 u127 u128 u129 u130 u131 u132 u133 u134 u135 u136 u137 u138 u139 u140 u141 u142 u143 u144 u145 u146 u147 u148 u149 u150 u151 u152 u153 u154 u155 u156 u157 u158 u159 u160 u161 u162 u163 u164 u165 u166 u167 u168 u169 u170 u171 u172 u173 u174 u175 u176 u177 u178 u179 u180 u181 u182 u183 u184 u185 u186 u187 u188 u189 u190 u191 u192 u193 u194 u195 u196 u197 u198
    · exact par_esc loc s hs w HT HE j acc wr HA hjl x t hx hx2 ht e0 e1 _ rfl Q0 u4 u5 u8 u9 u10 u11 u12 u13 u14 u15 u16 u17 u18 u19 u20 u21 u22 u23 u24 u25 u26 u27 u28 u29 u30 u31 u32 u33 u34 u35 u36 u37 u38 u39 u40 u41 u42 u43 u44 u45 u46 u47 u48 u49 u50 u51 u52 u53 u54 u55 u56 u57 u58 u59 u60 u61 u62 u63 u64 u65 u66 u67 u68 u69 u70 u71 u72 u73 u74 u75 u76 u77 u78 u79 u80 u81 u82 u83 u84 u85 u86 u87 u88 u89 u90 u91 u92 u93 u94 u95 u96 u97 u98 u99 u100 u101 u102 u103 u104 u105 u106 u107 u108 u109 u110 u111 u112 u113 u114 u115 u116 u117 u118 u119 u120 u121 u122 u123 u124 u125 u126 u127 u128 u129 u130 u131 u132 u133 u134 u135 u136 u137 u138 u139 u140 u141 u142 u143 u144 u145 u146 u147 u148 u149 u150 u151 u152 u153 u154 u155 u156 u157 u158 u159 u160 u161 u162 u163 u164 u165 u166 u167 u168 u169 u170 u171 u172 u173 u174 u175 u176 u177 u178 u179 u180 u181 u182 u183 u184 u185 u186 u187 u188 u189 u190 u191 u192 u193 u194 u195 u196 u197 u198
    · exact par_fig loc s hs w HT HE j acc wr HA hjl t h0 hsr ht e0 e1 _ rfl Q0 u4 u5 u8 u9 u10 u11 u12 u13 u14 u15 u16 u17 u18 u19 u20 u21 u22 u23 u24 u25 u26 u27 u28 u29 u30 u31 u32 u33 u34 u35 u36 u37 u38 u39 u40 u41 u42 u43 u44 u45 u46 u47 u48 u49 u50 u51 u52 u53 u54 u55 u56 u57 u58 u59 u60 u61 u62 u63 u64 u65 u66 u67 u68 u69 u70 u71 u72 u73 u74 u75 u76 u77 u78 u79 u80 u81 u82 u83 u84 u85 u86 u87 u88 u89 u90 u91 u92 u93 u94 u95 u96 u97 u98 u99 u100 u101 u102 u103 u104 u105 u106 u107 u108 u109 u110 u111 u112 u113 u114 u115 u116 u117 u118 u119 u120 u121 u122 u123 u124 u125 u126 u127 u128 u129 u130 u131 u132 u133 u134 u135 u136 u137 u138 u139 u140 u141 u142 u143 u144 u145 u146 u147 u148 u149 u150 u151 u152 u153 u154 u155 u156 u157 u158 u159 u160 u161 u162 u163 u164 u165 u166 u167 u168 u169 u170 u171 u172 u173 u174 u175 u176 u177 u178 u179 u180 u181 u182 u183 u184 u185 u186 u187 u188 u189 u190 u191 u192 u193 u194 u195 u196 u197 u198
    · exact par_pair loc s hs w HT HE j acc wr HA hjl t u h1 h2 hd h3 h4 ht e0 e1 _ rfl Q0 u4 u5 u8 u9 u10 u11 u12 u13 u14 u15 u16 u17 u18 u19 u20 u21 u22 u23 u24 u25 u26 u27 u28 u29 u30 u31 u32 u33 u34 u35 u36 u37 u38 u39 u40 u41 u42 u43 u44 u45 u46 u47 u48 u49 u50 u51 u52 u53 u54 u55 u56 u57 u58 u59 u60 u61 u62 u63 u64 u65 u66 u67 u68 u69 u70 u71 u72 u73 u74 u75 u76 u77 u78 u79 u80 u81 u82 u83 u84 u85 u86 u87 u88 u89 u90 u91 u92 u93 u94 u95 u96 u97 u98 u99 u100 u101 u102 u103 u104 u105 u106 u107 u108 u109 u110 u111 u112 u113 u114 u115 u116 u117 u118 u119 u120 u121 u122 u123 u124 u125 u126 u127 u128 u129 u130 u131 u132 u133 u134 u135 u136 u137 u138 u139 u140 u141 u142 u143 u144 u145 u146 u147 u148 u149 u150 u151 u152 u153 u154 u155 u156 u157 u158 u159 u160 u161 u162 u163 u164 u165 u166 u167 u168 u169 u170 u171 u172 u173 u174 u175 u176 u177 u178 u179 u180 u181 u182 u183 u184 u185 u186 u187 u188 u189 u190 u191 u192 u193 u194 u195 u196 u197 u198
  · obtain rfl : j = s.size := Nat.le_antisymm hat.le (Nat.le_of_not_lt hjl)
    exact par_end loc s w acc wr HA _ Q0 hexit u4 u5 u8 u9 u10 u11 u12 u13 u14 u15 u16 u17 u18 u19 u20 u21 u22 u23 u24 u25 u26 u27 u28 u29 u30 u31 u32 u33 u34 u35 u36 u37 u38 u39 u40 u41 u42 u43 u44 u45 u46 u47 u48 u49 u50 u51 u52 u53 u54 u55 u56 u57 u58 u59 u60 u61 u62 u63 u64 u65 u66 u67 u68 u69 u70 u71 u72 u73 u74 u75 u76 u77 u78 u79 u80 u81 u82 u83 u84 u85 u86 u87 u88 u89 u90 u91 u92 u93 u94 u95 u96 u97 u98 u99 u100 u101 u102 u103 u104 u105 u106 u107 u108 u109 u110 u111 u112 u113 u114 u115 u116 u117 u118 u119 u120 u121 u122 u123 u124 u125 u126 u127 u128 u129 u130 u131 u132 u133 u134 u135 u136 u137 u138 u139 u140 u141 u142 u143 u144 u145 u146 u147 u148 u149 u150 u151 u152 u153 u154 u155 u156 u157 u158 u159 u160 u161 u162 u163 u164 u165 u166 u167 u168 u169 u170 u171 u172 u173 u174 u175 u176 u177 u178 u179 u180 u181 u182 u183 u184 u185 u186 u187 u188 u189 u190 u191 u192 u193 u194 u195 u196 u197 u198
set_option maxHeartbeats 8000000 in
set_option maxRecDepth 1000000 in
theorem par_loop (loc : Value) (s : ByteArray) (hs : s.size ≤ 400) (w : World) (HT : Hid (Lib.Utf8Tabs 0 1 w)) (HE : Hid (∃ ev, w.cell? ⟨3, 0, none⟩ = some ev)) (Q0 : Exit → Act → World → Prop) (hexit : ∀ a' w'', ParX loc s w a' w'' → Q0 (.exit 0) a' w'') (u4 u5 u8 u9 u10 u11 u12 u13 u14 u15 u16 u17 u18 u19 u20 u21 u22 u23 u24 u25 u26 u27 u28 u29 u30 u31 u32 u33 u34 u35 u36 u37 u38 u39 u40 u41 u42 u43 u44 u45 u46 u47 u48 u49 u50 u51 u52 u53 u54 u55 u56 u57 u58 u59 u60 u61 u62 u63 u64 u65 u66 u67 u68 u69 u70 u71 u72 u73 u74 u75 u76 u77 u78 u79 u80 u81 u82 u83 u84 u85 u86 u87 u88 u89 u90 u91 u92 u93 u94 u95 u96 u97 u98 u99 u100 u101 u102 u103 u104 u105 u106 u107 u108 u109 u110 u111 u112 u113 u114 u115 u116 u117 u118 u119 u120 u121 u122 u123 u124 u125 u126 u127 u128 u129 u130 u131 u132 u133 u134 u135 u136 u137 u138 u139 u140 u141 u142 u143 u144 u145 u146 u147 u148 u149 u150 u151 u152 u153 u154 u155 u156 u157 u158 u159 u160 u161 u162 u163 u164 u165 u166 u167 u168 u169 u170 u171 u172 u173 u174 u175 u176 u177 u178 u179 u180 u181 u182 u183 u184 u185 u186 u187 u188 u189 u190 u191 u192 u193 u194 u195 u196 u197 u198 : Value) (wr : World) (hat : At s w 0 [] wr) :
    Code.wp Tryf.prog (Code.loop parBody) Q0 ⟨#[loc, .string s, undef, undef, u4, u5, .pointer (some ⟨w.heap.size, 0, none⟩), .int .i64 0, u8, u9, u10, u11, u12, u13, u14, u15, u16, u17, u18, u19, u20, u21, u22, u23, u24, u25, u26, u27, u28, u29, u30, u31, u32, u33, u34, u35, u36, u37, u38, u39, u40, u41, u42, u43, u44, u45, u46, u47, u48, u49, u50, u51, u52, u53, u54, u55, u56, u57, u58, u59, u60, u61, u62, u63, u64, u65, u66, u67, u68, u69, u70, u71, u72, u73, u74, u75, u76, u77, u78, u79, u80, u81, u82, u83, u84, u85, u86, u87, u88, u89, u90, u91, u92, u93, u94, u95, u96, u97, u98, u99, u100, u101, u102, u103, u104, u105, u106, u107, u108, u109, u110, u111, u112, u113, u114, u115, u116, u117, u118, u119, u120, u121, u122, u123, u124, u125, u126, u127, u128, u129, u130, u131, u132, u133, u134, u135, u136, u137, u138, u139, u140, u141, u142, u143, u144, u145, u146, u147, u148, u149, u150, u151, u152, u153, u154, u155, u156, u157, u158, u159, u160, u161, u162, u163, u164, u165, u166, u167, u168, u169, u170, u171, u172, u173, u174, u175, u176, u177, u178, u179, u180, u181, u182, u183, u184, u185, u186, u187, u188, u189, u190, u191, u192, u193, u194, u195, u196, u197, u198], []⟩ wr := by
  refine wp_loop (ParI loc s w) (ParMu s) ?_ (fun a w'' hI => par_round loc s hs w HT HE Q0 hexit a w'' hI)
  unfold ParI
  exact ⟨u4, u5, .int .i64 0, u8, u9, u10, u11, u12, u13, u14, u15, u16, u17, u18, u19, u20, u21, u22, u23, u24, u25, u26, u27, u28, u29, u30, u31, u32, u33, u34, u35, u36, u37, u38, u39, u40, u41, u42, u43, u44, u45, u46, u47, u48, u49, u50, u51, u52, u53, u54, u55, u56, u57, u58, u59, u60, u61, u62, u63, u64, u65, u66, u67, u68, u69, u70, u71, u72, u73, u74, u75, u76, u77, u78, u79, u80, u81, u82, u83, u84, u85, u86, u87, u88, u89, u90, u91, u92, u93, u94, u95, u96, u97, u98, u99, u100, u101, u102, u103, u104, u105, u106, u107, u108, u109, u110, u111, u112, u113, u114, u115, u116, u117, u118, u119, u120, u121, u122, u123, u124, u125, u126, u127, u128, u129, u130, u131, u132, u133, u134, u135, u136, u137, u138, u139, u140, u141, u142, u143, u144, u145, u146, u147, u148, u149, u150, u151, u152, u153, u154, u155, u156, u157, u158, u159, u160, u161, u162, u163, u164, u165, u166, u167, u168, u169, u170, u171, u172, u173, u174, u175, u176, u177, u178, u179, u180, u181, u182, u183, u184, u185, u186, u187, u188, u189, u190, u191, u192, u193, u194, u195, u196, u197, u198, ⟨0, [], rfl, hat⟩, rfl⟩
set_option maxHeartbeats 8000000 in
set_option maxRecDepth 1000000 in
theorem parse_any (loc : Value) (s : ByteArray) (hs : s.size ≤ 400) (hv : Val s.data.toList) (hf : (unL s.data.toList).1 = 1) (w : World) (HT0 : Lib.Utf8Tabs 0 1 w) (HE0 : ∃ ev, w.cell? ⟨3, 0, none⟩ = some ev) :
    Calls Tryf.prog 25 #[loc, .string s] w fun e w' => e = .returned (.tuple #[.string (bs (unL s.data.toList).2), .nilIface]) ∧ Below w.heap.size w w' := by
  have HV := Lib.hid hv; have HF := Lib.hid hf; clear hv hf
  have HT := Lib.hid HT0; have HE := Lib.hid HE0; clear HT0 HE0
  go_enter Tryf.func25, Tryf.ntmps25
  go_wp2
  refine par_loop loc s hs w HT HE _ ?_ _ _ _ _ _ _ _ _ _ _ _ _ _ _ _ _ _ _ _ _ _ _ _ _ _ _ _ _ _ _ _ _ _ _ _ _ _ _ _ _ _ _ _ _ _ _ _ _ _ _ _ _ _ _ _ _ _ _ _ _ _ _ _ _ _ _ _ _ _ _ _ _ _ _ _ _ _ _ _ _ _ _ _ _ _ _ _ _ _ _ _ _ _ _ _ _ _ _ _ _ _ _ _ _ _ _ _ _ _ _ _ _ _ _ _ _ _ _ _ _ _ _ _ _ _ _ _ _ _ _ _ _ _ _ _ _ _ _ _ _ _ _ _ _ _ _ _ _ _ _ _ _ _ _ _ _ _ _ _ _ _ _ _ _ _ _ _ _ _ _ _ _ _ _ _ _ _ _ _ _ _ _ _ _ _ _ _ _ _ _ _ _ _ _ ⟨Nat.zero_le _, Lib.fresh_isBuffer 175 5 w, below_alloc1 _ _, by simpa using HV.out, by simp [UnAt], by simpa using HF.out, Nat.le_refl _⟩
  intro a' wr hX
  unfold ParX at hX
  obtain ⟨u4, hX⟩ := hX
  obtain ⟨u5, hX⟩ := hX
  obtain ⟨u8, hX⟩ := hX
  obtain ⟨u9, hX⟩ := hX
  obtain ⟨u10, hX⟩ := hX
  obtain ⟨u11, hX⟩ := hX
  obtain ⟨u12, hX⟩ := hX
  obtain ⟨u13, hX⟩ := hX
  obtain ⟨u14, hX⟩ := hX
  obtain ⟨u15, hX⟩ := hX
  obtain ⟨u16, hX⟩ := hX
  obtain ⟨u17, hX⟩ := hX
  obtain ⟨u18, hX⟩ := hX
  obtain ⟨u19, hX⟩ := hX
  obtain ⟨u20, hX⟩ := hX
  obtain ⟨u21, hX⟩ := hX
  obtain ⟨u22, hX⟩ := hX
  obtain ⟨u23, hX⟩ := hX
  obtain ⟨u24, hX⟩ := hX
  obtain ⟨u25, hX⟩ := hX
  obtain ⟨u26, hX⟩ := hX
  obtain ⟨u27, hX⟩ := hX
  obtain ⟨u28, hX⟩ := hX
  obtain ⟨u29, hX⟩ := hX
  obtain ⟨u30, hX⟩ := hX
  obtain ⟨u31, hX⟩ := hX
  obtain ⟨u32, hX⟩ := hX
  obtain ⟨u33, hX⟩ := hX
  obtain ⟨u34, hX⟩ := hX
  obtain ⟨u35, hX⟩ := hX
  obtain ⟨u36, hX⟩ := hX
  obtain ⟨u37, hX⟩ := hX
  obtain ⟨u38, hX⟩ := hX
  obtain ⟨u39, hX⟩ := hX
  obtain ⟨u40, hX⟩ := hX
  obtain ⟨u41, hX⟩ := hX
  obtain ⟨u42, hX⟩ := hX
  obtain ⟨u43, hX⟩ := hX
  obtain ⟨u44, hX⟩ := hX
  obtain ⟨u45, hX⟩ := hX
  obtain ⟨u46, hX⟩ := hX
  obtain ⟨u47, hX⟩ := hX
  obtain ⟨u48, hX⟩ := hX
  obtain ⟨u49, hX⟩ := hX
  obtain ⟨u50, hX⟩ := hX
  obtain ⟨u51, hX⟩ := hX
  obtain ⟨u52, hX⟩ := hX
  obtain ⟨u53, hX⟩ := hX
  obtain ⟨u54, hX⟩ := hX
  obtain ⟨u55, hX⟩ := hX
  obtain ⟨u56, hX⟩ := hX
  obtain ⟨u57, hX⟩ := hX
  obtain ⟨u58, hX⟩ := hX
  obtain ⟨u59, hX⟩ := hX
  obtain ⟨u60, hX⟩ := hX
  obtain ⟨u61, hX⟩ := hX
  obtain ⟨u62, hX⟩ := hX
  obtain ⟨u63, hX⟩ := hX
  obtain ⟨u64, hX⟩ := hX
  obtain ⟨u65, hX⟩ := hX
  obtain ⟨u66, hX⟩ := hX
  obtain ⟨u67, hX⟩ := hX
  obtain ⟨u68, hX⟩ := hX
  obtain ⟨u69, hX⟩ := hX
  obtain ⟨u70, hX⟩ := hX
  obtain ⟨u71, hX⟩ := hX
  obtain ⟨u72, hX⟩ := hX
  obtain ⟨u73, hX⟩ := hX
  obtain ⟨u74, hX⟩ := hX
  obtain ⟨u75, hX⟩ := hX
  obtain ⟨u76, hX⟩ := hX
  obtain ⟨u77, hX⟩ := hX
  obtain ⟨u78, hX⟩ := hX
  obtain ⟨u79, hX⟩ := hX
  obtain ⟨u80, hX⟩ := hX
  obtain ⟨u81, hX⟩ := hX
  obtain ⟨u82, hX⟩ := hX
  obtain ⟨u83, hX⟩ := hX
  obtain ⟨u84, hX⟩ := hX
  obtain ⟨u85, hX⟩ := hX
  obtain ⟨u86, hX⟩ := hX
  obtain ⟨u87, hX⟩ := hX
  obtain ⟨u88, hX⟩ := hX
  obtain ⟨u89, hX⟩ := hX
  obtain ⟨u90, hX⟩ := hX
  obtain ⟨u91, hX⟩ := hX
  obtain ⟨u92, hX⟩ := hX
  obtain ⟨u93, hX⟩ := hX
  obtain ⟨u94, hX⟩ := hX
  obtain ⟨u95, hX⟩ := hX
  obtain ⟨u96, hX⟩ := hX
  obtain ⟨u97, hX⟩ := hX
  obtain ⟨u98, hX⟩ := hX
  obtain ⟨u99, hX⟩ := hX
  obtain ⟨u100, hX⟩ := hX
  obtain ⟨u101, hX⟩ := hX
  obtain ⟨u102, hX⟩ := hX
  obtain ⟨u103, hX⟩ := hX
  obtain ⟨u104, hX⟩ := hX
  obtain ⟨u105, hX⟩ := hX
  obtain ⟨u106, hX⟩ := hX
  obtain ⟨u107, hX⟩ := hX
  obtain ⟨u108, hX⟩ := hX
  obtain ⟨u109, hX⟩ := hX
  obtain ⟨u110, hX⟩ := hX
  obtain ⟨u111, hX⟩ := hX
  obtain ⟨u112, hX⟩ := hX
  obtain ⟨u113, hX⟩ := hX
  obtain ⟨u114, hX⟩ := hX
  obtain ⟨u115, hX⟩ := hX
  obtain ⟨u116, hX⟩ := hX
  obtain ⟨u117, hX⟩ := hX
  obtain ⟨u118, hX⟩ := hX
  obtain ⟨u119, hX⟩ := hX
  obtain ⟨u120, hX⟩ := hX
  obtain ⟨u121, hX⟩ := hX
  obtain ⟨u122, hX⟩ := hX
  obtain ⟨u123, hX⟩ := hX
  obtain ⟨u124, hX⟩ := hX
  obtain ⟨u125, hX⟩ := hX
  obtain ⟨u126, hX⟩ := hX
  obtain ⟨u127, hX⟩ := hX
  obtain ⟨u128, hX⟩ := hX
  obtain ⟨u129, hX⟩ := hX
  obtain ⟨u130, hX⟩ := hX
  obtain ⟨u131, hX⟩ := hX
  obtain ⟨u132, hX⟩ := hX
  obtain ⟨u133, hX⟩ := hX
  obtain ⟨u134, hX⟩ := hX
  obtain ⟨u135, hX⟩ := hX
  obtain ⟨u136, hX⟩ := hX
  obtain ⟨u137, hX⟩ := hX
  obtain ⟨u138, hX⟩ := hX
  obtain ⟨u139, hX⟩ := hX
  obtain ⟨u140, hX⟩ := hX
  obtain ⟨u141, hX⟩ := hX
  obtain ⟨u142, hX⟩ := hX
  obtain ⟨u143, hX⟩ := hX
  obtain ⟨u144, hX⟩ := hX
  obtain ⟨u145, hX⟩ := hX
  obtain ⟨u146, hX⟩ := hX
  obtain ⟨u147, hX⟩ := hX
  obtain ⟨u148, hX⟩ := hX
  obtain ⟨u149, hX⟩ := hX
  obtain ⟨u150, hX⟩ := hX
  obtain ⟨u151, hX⟩ := hX
  obtain ⟨u152, hX⟩ := hX
  obtain ⟨u153, hX⟩ := hX
  obtain ⟨u154, hX⟩ := hX
  obtain ⟨u155, hX⟩ := hX
  obtain ⟨u156, hX⟩ := hX
  obtain ⟨u157, hX⟩ := hX
  obtain ⟨u158, hX⟩ := hX
  obtain ⟨u159, hX⟩ := hX
  obtain ⟨u160, hX⟩ := hX
  obtain ⟨u161, hX⟩ := hX
  obtain ⟨u162, hX⟩ := hX
  obtain ⟨u163, hX⟩ := hX
  obtain ⟨u164, hX⟩ := hX
  obtain ⟨u165, hX⟩ := hX
  obtain ⟨u166, hX⟩ := hX
  obtain ⟨u167, hX⟩ := hX
  obtain ⟨u168, hX⟩ := hX
  obtain ⟨u169, hX⟩ := hX
  obtain ⟨u170, hX⟩ := hX
  obtain ⟨u171, hX⟩ := hX
  obtain ⟨u172, hX⟩ := hX
  obtain ⟨u173, hX⟩ := hX
  obtain ⟨u174, hX⟩ := hX
  obtain ⟨u175, hX⟩ := hX
  obtain ⟨u176, hX⟩ := hX
  obtain ⟨u177, hX⟩ := hX
  obtain ⟨u178, hX⟩ := hX
  obtain ⟨u179, hX⟩ := hX
  obtain ⟨u180, hX⟩ := hX
  obtain ⟨u181, hX⟩ := hX
  obtain ⟨u182, hX⟩ := hX
  obtain ⟨u183, hX⟩ := hX
  obtain ⟨u184, hX⟩ := hX
  obtain ⟨u185, hX⟩ := hX
  obtain ⟨u186, hX⟩ := hX
  obtain ⟨u187, hX⟩ := hX
  obtain ⟨u188, hX⟩ := hX
  obtain ⟨u189, hX⟩ := hX
  obtain ⟨u190, hX⟩ := hX
  obtain ⟨u191, hX⟩ := hX
  obtain ⟨u192, hX⟩ := hX
  obtain ⟨u193, hX⟩ := hX
  obtain ⟨u194, hX⟩ := hX
  obtain ⟨u195, hX⟩ := hX
  obtain ⟨u196, hX⟩ := hX
  obtain ⟨u197, hX⟩ := hX
  obtain ⟨u198, hX⟩ := hX
  obtain ⟨⟨acc, hat⟩, rfl⟩ := hX
  have HA := Lib.hid hat; clear hat
  have hsz := HA.out.bel.size
  have hfin : (unL s.data.toList).2 = acc := by
    have := HA.out.un
    unfold UnAt at this
    rw [this, List.drop_eq_nil_of_le (by rw [← Lib.size_eq]; exact Nat.le_refl _), unL_nil]
    simp
  have HFN := Lib.hid hfin; clear hfin
  go_wp2_with fail
  refine (Tryf.Buffer_String w.heap.size w.heap.size acc wr HA.out.buf).mono ?_
  rintro e W2 ⟨rfl, n, hW⟩
  have HB2 := Lib.hid (show Below w.heap.size w W2 by subst hW; exact HA.out.bel.trans ⟨rfl, rfl, rfl, Nat.le_refl _, fun _ _ => rfl⟩)
  clear hW
  go_wp2
  go_ret2
  exact ⟨by rw [HFN.out]; rfl, HB2.out⟩
end Go.Proofs.YtceepfnjdkfjnaaFmt
