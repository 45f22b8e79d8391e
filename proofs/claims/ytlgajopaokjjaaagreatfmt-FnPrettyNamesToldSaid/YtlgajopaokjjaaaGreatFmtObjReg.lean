/-
  impl.object's append of a field, by itself. Conditions: the list's length.
-/
import Derived.Test.YtlgajopaokjjaaaGreatFmtBase
import Derived.Deep.RegionHeldLaw
import Derived.Deep.AppendLies
namespace Go.Proofs.YtlgajopaokjjaaaGreatFmt
open Go.ChangeShapes Go.WideShapes Go.ChangeAt Go.RowKit Go.Joins

/-- The region of a number, in a function's code. -/
def findRegion (n : Nat) : Code → Option Code
  | .region id ops d => if id = n then some (.region id ops d) else none
  | .seq a b => match findRegion n a with | some c => some c | none => findRegion n b
  | .cond _ a b => match findRegion n a with | some c => some c | none => findRegion n b
  | .block _ c => findRegion n c
  | .loop c => findRegion n c
  | .scope c => findRegion n c
  | _ => none
noncomputable def objAppend : Code := ((Tryz.f19.body.bind (findRegion 13)).getD .skip)
theorem blk_drew' {W : World} {g : Nat} {o : Obj} (h : W.heap[g]? = some o) : W.drew.heap[g]? = some o := h
theorem blk_alloc' {W : World} {g : Nat} {o o' : Obj} (h : W.heap[g]? = some o) : (W.alloc o').heap[g]? = some o := (Below.heap_alloc W o' g (heap_lt h)).trans h
theorem blk_set' {W : World} {g : Nat} {o : Obj} {p : Addr} {u : Value} (hn : g ≠ p.block) (h : W.heap[g]? = some o) : (W.setCell p u).heap[g]? = some o := (Below.heap_setCell _ _ _ _ hn).trans h
theorem infoOF : (Tryz.prog.info? 155).map (fun i => (i.zero, i.size, i.bytes)) = some (some (.agg #[.pointer none, .pointer none, .slice none 0 0, .slice none 0 0, .slice none 0 0, .slice none 0 0, .nilIface, .nilIface, .nilIface, .pointer none, .string ByteArray.empty, .int .i64 0, .int .i64 0, .int .i64 0, .int .i64 0, .int .i64 0, .int .i64 0, .bool false]), 18, 240) := by kernel_rfl
theorem news_drew (w : World) (cs : Array Value) (t : TypeId) {l : List Value} (hl : l = cs.toList) : ∀ j u, l[j]? = some u → (w.alloc (.cells cs t)).drew.cell? ((⟨w.heap.size, 0, none⟩ : Addr).add j) = some u := by
  subst hl
  exact World.news_of_block (w := (w.alloc (.cells cs t)).drew) (heap_alloc_new w _)
theorem cells18 {w : World} {g : Nat} {c0 c1 c2 c3 c4 c5 c6 c7 c8 c9 c10 c11 c12 c13 c14 c15 c16 c17 : Value} {t : TypeId} (h : w.heap[g]? = some (.cells #[c0, c1, c2, c3, c4, c5, c6, c7, c8, c9, c10, c11, c12, c13, c14, c15, c16, c17] t)) :
    w.cell? ⟨g, 0, none⟩ = some c0 ∧ w.cell? ⟨g, 1, none⟩ = some c1 ∧ w.cell? ⟨g, 2, none⟩ = some c2 ∧ w.cell? ⟨g, 3, none⟩ = some c3 ∧ w.cell? ⟨g, 4, none⟩ = some c4 ∧ w.cell? ⟨g, 5, none⟩ = some c5 ∧ w.cell? ⟨g, 6, none⟩ = some c6 ∧ w.cell? ⟨g, 7, none⟩ = some c7 ∧ w.cell? ⟨g, 8, none⟩ = some c8 ∧ w.cell? ⟨g, 9, none⟩ = some c9 ∧ w.cell? ⟨g, 10, none⟩ = some c10 ∧ w.cell? ⟨g, 11, none⟩ = some c11 ∧ w.cell? ⟨g, 12, none⟩ = some c12 ∧ w.cell? ⟨g, 13, none⟩ = some c13 ∧ w.cell? ⟨g, 14, none⟩ = some c14 ∧ w.cell? ⟨g, 15, none⟩ = some c15 ∧ w.cell? ⟨g, 16, none⟩ = some c16 ∧ w.cell? ⟨g, 17, none⟩ = some c17 :=
  ⟨cell_of (j := 0) h rfl, cell_of (j := 1) h rfl, cell_of (j := 2) h rfl, cell_of (j := 3) h rfl, cell_of (j := 4) h rfl, cell_of (j := 5) h rfl, cell_of (j := 6) h rfl, cell_of (j := 7) h rfl, cell_of (j := 8) h rfl, cell_of (j := 9) h rfl, cell_of (j := 10) h rfl, cell_of (j := 11) h rfl, cell_of (j := 12) h rfl, cell_of (j := 13) h rfl, cell_of (j := 14) h rfl, cell_of (j := 15) h rfl, cell_of (j := 16) h rfl, cell_of (j := 17) h rfl⟩
/-- Only a normal end. -/
def OnlyN (N : Act → World → Prop) : Exit → Act → World → Prop
  | .normal, a, w => N a w
  | _, _, _ => False
set_option maxRecDepth 100000 in
set_option maxHeartbeats 8000000 in
theorem obj_append {w : World} {A B j vc base : Nat} {va : Option Addr} {xs : List Value} {cA : Array Value} {tA : TypeId} {c0 c1 c2 c3 c4 c5 c6 c7 c8 c9 c10 c11 c12 c13 c14 c15 c16 c17 s0 s1 s2 s4 s5 s7 s8 s9 s10 s11 s12 s13 s14 s15 s16 s17 s18 s19 s20 s21 s22 s23 s24 s25 s26 s27 s28 s29 s30 s31 s32 s33 s34 s35 s36 s37 s38 s39 s40 s41 s42 s43 s44 s45 s46 s47 s48 s49 s50 : Value} {N : Act → World → Prop}
    (hA : w.heap[A]? = some (.cells cA tA)) (h0 : cA[0]? = some (.slice va j vc)) (hB : w.heap[B]? = some (.cells #[c0, c1, c2, c3, c4, c5, c6, c7, c8, c9, c10, c11, c12, c13, c14, c15, c16, c17] 155)) (hone : ∀ u ∈ [c0, c1, c2, c3, c4, c5, c6, c7, c8, c9, c10, c11, c12, c13, c14, c15, c16, c17], u.oneCell' = true) (hj : j ≤ 6)
    (ho : w.ownsRow base 155 18 (.slice va j vc) j xs) (hAb : A < base) (hbase : base ≤ w.heap.size) (_hBA : B ≠ A) (hBo : (Value.slice va j vc).ownBlock ≠ some B)
    (hQ : ∀ g cap w6 u38 u39 u40 u41 u42 u43 u44 u45 u46 u47, w6.ownsRow base 155 18 (.slice (some ⟨g, 0, none⟩) (j + 1) cap) (j + 1) (xs ++ [c0, c1, c2, c3, c4, c5, c6, c7, c8, c9, c10, c11, c12, c13, c14, c15, c16, c17]) → (w.alloc (.cells #[c0, c1, c2, c3, c4, c5, c6, c7, c8, c9, c10, c11, c12, c13, c14, c15, c16, c17] 155)).drew.grownBy w6 (Value.slice va j vc).ownBlock → ((Value.slice va j vc).ownBlock = some g ∨ g = w.heap.size + 1) →
      N ⟨#[s0, s1, s2, .pointer (some ⟨A, 0, none⟩), s4, s5, .pointer (some ⟨B, 0, none⟩), s7, s8, s9, s10, s11, s12, s13, s14, s15, s16, s17, s18, s19, s20, s21, s22, s23, s24, s25, s26, s27, s28, s29, s30, s31, s32, s33, s34, s35, s36, s37, u38, u39, u40, u41, u42, u43, u44, u45, u46, u47, s48, s49, s50], []⟩ (w6.setCell ⟨A, 0, none⟩ (.slice (some ⟨g, 0, none⟩) (j + 1) cap))) :
    Code.wp Tryz.prog objAppend (OnlyN N) ⟨#[s0, s1, s2, .pointer (some ⟨A, 0, none⟩), s4, s5, .pointer (some ⟨B, 0, none⟩), s7, s8, s9, s10, s11, s12, s13, s14, s15, s16, s17, s18, s19, s20, s21, s22, s23, s24, s25, s26, s27, s28, s29, s30, s31, s32, s33, s34, s35, s36, s37, s38, s39, s40, s41, s42, s43, s44, s45, s46, s47, s48, s49, s50], []⟩ w := by
  obtain ⟨i0, hi0, hz0, hs0, hb0⟩ := info_parts infoOF
  have y1 : w.cell? ⟨A, 0, none⟩ = some (.slice va j vc) := cell_of hA h0
  have y2 : ∀ i, w.frozen? ⟨A, i, none⟩ = false := fun i => unfrozen_of_block hA i
  have zA := heap_lt hA
  have zB := heap_lt hB
  have HA := Lib.hid hA; have HB := Lib.hid hB; have HO := Lib.hid ho; have HQ := Lib.hid hQ; have HON := Lib.hid hone; have H0 := Lib.hid h0
  have HD := Lib.hid (show Below w.heap.size w (w.alloc (.cells #[c0, c1, c2, c3, c4, c5, c6, c7, c8, c9, c10, c11, c12, c13, c14, c15, c16, c17] 155)).drew from (below_alloc1 w _).drew)
  have HO5 := Lib.hid (ownsRow_below HO.out HD.out)
  clear hA hB ho hQ hone h0
  conv => arg 2; whnf
  obtain ⟨k0, k1, k2, k3, k4, k5, k6, k7, k8, k9, k10, k11, k12, k13, k14, k15, k16, k17⟩ := cells18 HB.out
  go_region_law ((refine step_append_lies _ rfl (.tmp 42) (.tmp 44) 131 rfl base 155 i0 (.agg #[.pointer none, .pointer none, .slice none 0 0, .slice none 0 0, .slice none 0 0, .slice none 0 0, .nilIface, .nilIface, .nilIface, .pointer none, .string ByteArray.empty, .int .i64 0, .int .i64 0, .int .i64 0, .int .i64 0, .int .i64 0, .int .i64 0, .bool false]) 18 240 Tryz.underlying131 hi0 hz0 hs0 hb0 rfl (by omega) (.slice va j vc) j xs (by simp [Act.eval]) HO5.out ⟨w.heap.size, 0, none⟩ 1 1 [c0, c1, c2, c3, c4, c5, c6, c7, c8, c9, c10, c11, c12, c13, c14, c15, c16, c17] (by simp [Act.eval]) rfl (news_drew w _ _ rfl) HON.out (by omega) (by unfold maxLen; omega) (by omega) (by simp; omega) _ rfl ?_; intro g cap1 w6 hown6 hgrow6 hat6 hlt6; have HG6 := Lib.hid hgrow6; have HO6 := Lib.hid hown6; have HT6 := Lib.hid hat6; clear hgrow6 hown6 hat6; have HA6 := Lib.hid ((HG6.out.block A (by simp; omega) (fun e => by have := (HO5.out.lt _ e.symm).1; omega)).trans ((HD.out.block _ zA).trans HA.out)); have HB6 := Lib.hid ((HG6.out.block B (by simp; omega) (fun e => hBo e.symm)).trans ((HD.out.block _ zB).trans HB.out)); have v1 := cell_of (j := 0) HA6.out H0.out; have v2 := fun i => unfrozen_of_block HA6.out i))
  all_goals exact HQ.out _ _ _ _ _ _ _ _ _ _ _ _ _ HO6.out HG6.out (by simpa using HT6.out)
theorem obj_append_then {w : World} {A B j vc base : Nat} {va : Option Addr} {xs : List Value} {cA : Array Value} {tA : TypeId} {c0 c1 c2 c3 c4 c5 c6 c7 c8 c9 c10 c11 c12 c13 c14 c15 c16 c17 s0 s1 s2 s4 s5 s7 s8 s9 s10 s11 s12 s13 s14 s15 s16 s17 s18 s19 s20 s21 s22 s23 s24 s25 s26 s27 s28 s29 s30 s31 s32 s33 s34 s35 s36 s37 s38 s39 s40 s41 s42 s43 s44 s45 s46 s47 s48 s49 s50 : Value} {Q : Exit → Act → World → Prop}
    (hA : w.heap[A]? = some (.cells cA tA)) (h0 : cA[0]? = some (.slice va j vc)) (hB : w.heap[B]? = some (.cells #[c0, c1, c2, c3, c4, c5, c6, c7, c8, c9, c10, c11, c12, c13, c14, c15, c16, c17] 155)) (hone : ∀ u ∈ [c0, c1, c2, c3, c4, c5, c6, c7, c8, c9, c10, c11, c12, c13, c14, c15, c16, c17], u.oneCell' = true) (hj : j ≤ 6)
    (ho : w.ownsRow base 155 18 (.slice va j vc) j xs) (hAb : A < base) (hbase : base ≤ w.heap.size) (_hBA : B ≠ A) (hBo : (Value.slice va j vc).ownBlock ≠ some B)
    (hQ : ∀ g cap w6 u38 u39 u40 u41 u42 u43 u44 u45 u46 u47, w6.ownsRow base 155 18 (.slice (some ⟨g, 0, none⟩) (j + 1) cap) (j + 1) (xs ++ [c0, c1, c2, c3, c4, c5, c6, c7, c8, c9, c10, c11, c12, c13, c14, c15, c16, c17]) → (w.alloc (.cells #[c0, c1, c2, c3, c4, c5, c6, c7, c8, c9, c10, c11, c12, c13, c14, c15, c16, c17] 155)).drew.grownBy w6 (Value.slice va j vc).ownBlock → ((Value.slice va j vc).ownBlock = some g ∨ g = w.heap.size + 1) →
      Q .normal ⟨#[s0, s1, s2, .pointer (some ⟨A, 0, none⟩), s4, s5, .pointer (some ⟨B, 0, none⟩), s7, s8, s9, s10, s11, s12, s13, s14, s15, s16, s17, s18, s19, s20, s21, s22, s23, s24, s25, s26, s27, s28, s29, s30, s31, s32, s33, s34, s35, s36, s37, u38, u39, u40, u41, u42, u43, u44, u45, u46, u47, s48, s49, s50], []⟩ (w6.setCell ⟨A, 0, none⟩ (.slice (some ⟨g, 0, none⟩) (j + 1) cap))) :
    Code.wp Tryz.prog objAppend Q ⟨#[s0, s1, s2, .pointer (some ⟨A, 0, none⟩), s4, s5, .pointer (some ⟨B, 0, none⟩), s7, s8, s9, s10, s11, s12, s13, s14, s15, s16, s17, s18, s19, s20, s21, s22, s23, s24, s25, s26, s27, s28, s29, s30, s31, s32, s33, s34, s35, s36, s37, s38, s39, s40, s41, s42, s43, s44, s45, s46, s47, s48, s49, s50], []⟩ w := 
  wp_mono (obj_append (N := fun a w => Q .normal a w) hA h0 hB hone hj ho hAb hbase _hBA hBo hQ) (fun e a w h => by cases e <;> first | exact h | exact h.elim)
end Go.Proofs.YtlgajopaokjjaaaGreatFmt
