/-
  ast.clone at a call. Conditions: the list's length.
-/
import Derived.Test.YtceepfnjdkfjnaaFmtClone5
import Derived.RegionTactic
namespace Go.Proofs.YtceepfnjdkfjnaaFmt
open Go.ChangeShapes Go.WideShapes Go.ChangeAt Go.RowKit Go.Joins
attribute [local go_sem] ta_Apply ta_ApplyBrace ta_Array ta_ArrayComp ta_Assert ta_Binary ta_Conditional ta_DesugaredObject ta_Dollar ta_Error ta_Function ta_Import ta_ImportBin ta_ImportStr ta_InSuper ta_Index ta_LiteralBoolean ta_LiteralNull ta_LiteralNumber ta_LiteralString ta_Local ta_Object ta_ObjectComp ta_Parens ta_Self ta_Slice ta_SuperIndex ta_Unary ta_Var
theorem mk_named (w : World) : (Instr.makeSlice 166 (.int .i64 0) (.int .i64 0)).run Tryf.prog w = .ok (.slice (some ⟨w.heap.size, 0, none⟩) 0 0) (w.alloc (.cells #[] 226)) := by kernel_rfl
/-- New memory, and a cell of the copy. -/
theorem mid_newrow {w w2 : World} {c j : Nat} {cs CS : Array Value} {T y TU : TypeId} (h : Mid w c j cs T y CS TU w2) (i : Nat) (v : Value) (o : Obj) : Mid w c j cs T y (CS.setIfInBounds i v) TU (((w2.setCell ⟨w.heap.size, i, none⟩ v).alloc o).drew) := by
  refine h.step (v := v) ?_ ?_
  · exact bk_drew (bk_alloc (set_same h.row))
  · exact grown_alloc' (grown_set _ _ _ _) _
theorem apply_end {w w0 w1 w2 w9 : World} {S S1 : Nat → Prop} {SS : Nat → Nat → Prop} {b c j g g' cap' : Nat} {cs cur' CS9 : Array Value} {T : TypeId} {p0 p1 p2 p3 p4 p5 : Option Addr} {n0 n1 n2 n3 n4 n5 : Nat} {tc : Bool} {t1 : Tr} {y1 : TypeId} {b1' : Nat} {l : List Tr} {ys bs' lo : Nat → Nat} {ps : Nat → Option Addr} {ns : Nat → Nat}
    (s1 : ∀ k, S1 k → S k ∧ k ≠ b ∧ (0 < l.length → k ≠ g)) (ss : ∀ i, i < l.length → ∀ k, SS i k → S k ∧ k ≠ b ∧ k ≠ g ∧ ¬ S1 k) (dd : ∀ i j, i < j → j < l.length → ∀ k, SS i k → ¬ SS j k)
    (z0 : w.heap.size < w0.heap.size) (z1 : w.heap.size < w1.heap.size) (_l1 : w0.heap.size ≤ w1.heap.size) (ha1 : Ast w1 (Sub w S1 w0.heap.size w1.heap.size) t1 y1 b1') (hb1 : Below w1.heap.size w1 w2) (hg1 : w1.heap.size ≤ g') (hlo : g' < lo 0) (hmo : ∀ i j, i ≤ j → j ≤ l.length → lo i ≤ lo j) (hcap : l.length ≤ cap')
    (hrow1 : w2.heap[g']? = some (.cells cur' 130)) (hce : ∀ i, i < l.length → cur'[i * 2]? = some (.iface (ys i) (.pointer (some ⟨bs' i, 0, none⟩))) ∧ cur'[i * 2 + 1]? = some (.slice (ps i) 0 (ns i)))
    (has : ∀ i t, l[i]? = some t → Ast w2 (Sub w1 (fun k => SS i k ∧ k < w.heap.size) (lo i) (lo (i + 1))) t (ys i) (bs' i)) (hgr : w2.grownBy w9 (some w.heap.size)) (hm : Mid w c j cs T 112 CS9 170 w9)
    (hC : CS9 = #[.iface y1 (.pointer (some ⟨b1', 0, none⟩)), .slice p2 0 n2, .slice (some ⟨g', 0, none⟩) l.length cap', .slice p3 0 n3, .slice p4 0 n4, .slice p5 0 n5, .slice p0 0 n0, .pointer none, .slice p1 0 n1, .pointer none, .string ByteArray.empty, .int .i64 0, .int .i64 0, .int .i64 0, .int .i64 0, .bool tc, .bool false]) :
    Cloned w S c j cs T (.mk 13 ByteArray.empty 0 false (t1 :: l.map fun t => .mk 32 ByteArray.empty 0 false [t])) 112 (.returned (.tuple #[])) w9 := by
  subst hC
  have hgl := heap_lt hrow1
  have h1 : Ast w9 (Sub w S1 w0.heap.size w1.heap.size) t1 y1 b1' := sub_far (ha1.bel hb1) hgr z0
  refine ⟨rfl, w.heap.size, hm.cell, hm.grown, .apply (S1 := Sub w S1 w0.heap.size w1.heap.size) (SS := fun i => Sub w (SS i) (lo i) (lo (i + 1))) w.heap.size g' cur' p0 p1 p2 p3 p4 p5 n0 n1 n2 n3 n4 n5 cap' tc (some ⟨g', 0, none⟩) (.inl (Nat.le_refl _)) (fun k hk => ?_)
    (fun _ => ⟨rfl, .inl (by omega), by omega, (hgr.block g' hgl (fun e => by injection e with e; omega)).trans hrow1⟩) hcap hce (fun i hi k hk => ?_) (cse_apart z1 hg1 hlo hmo dd) hm.row h1 (cse_parts z1 hg1 hlo hmo has hgr)⟩
  · obtain ⟨q1, q2⟩ := sub_in z0 (fun k h => ⟨(s1 k h).1, (s1 k h).2.1⟩) k hk
    exact ⟨q1, q2, fun _ => by rcases hk with h | h <;> omega⟩
  · obtain ⟨q1, q2, q3⟩ := cse_in (g0 := g) z1 hg1 hlo hmo (fun i hi k h => ⟨(ss i hi k h).1, (ss i hi k h).2.1, (ss i hi k h).2.2.1⟩) i hi k hk
    refine ⟨q1, q2, q3, fun h' => ?_⟩
    have h0 := hmo 0 i (Nat.zero_le _) (by omega)
    rcases hk with h | h
    · rcases h' with h' | h' <;> omega
    · rcases h' with h' | h'
      · omega
      · exact (ss i hi k h.1).2.2.2 h'.1
set_option maxRecDepth 100000 in
set_option maxHeartbeats 16000000 in
theorem clone_apply {w : World} {S S1 : Nat → Prop} {SS : Nat → Nat → Prop} {b c j g cap : Nat} {cs cur : Array Value} {T : TypeId} {p0 p1 p2 p3 p4 p5 : Option Addr} {n0 n1 n2 n3 n4 n5 : Nat} {tc : Bool} {a : Option Addr} {t1 : Tr} {y1 : TypeId} {b1 : Nat} {l : List Tr} {ys bs : Nat → Nat} {ps : Nat → Option Addr} {ns : Nat → Nat} (hl : l.length ≤ 6) (hS : S b)
    (s1 : ∀ k, S1 k → S k ∧ k ≠ b ∧ (0 < l.length → k ≠ g))
    (hg : 0 < l.length → a = some ⟨g, 0, none⟩ ∧ S g ∧ g ≠ b ∧ w.heap[g]? = some (.cells cur 130)) (hr : ∀ i, i < l.length → cur[i * 2]? = some (.iface (ys i) (.pointer (some ⟨bs i, 0, none⟩))) ∧ cur[i * 2 + 1]? = some (.slice (ps i) 0 (ns i)))
    (ss : ∀ i, i < l.length → ∀ k, SS i k → S k ∧ k ≠ b ∧ k ≠ g ∧ ¬ S1 k) (dd : ∀ i j, i < j → j < l.length → ∀ k, SS i k → ¬ SS j k)
    (hb : w.heap[b]? = some (.cells #[.iface y1 (.pointer (some ⟨b1, 0, none⟩)), .slice p2 0 n2, .slice a l.length cap, .slice p3 0 n3, .slice p4 0 n4, .slice p5 0 n5, .slice p0 0 n0, .pointer none, .slice p1 0 n1, .pointer none, .string ByteArray.empty, .int .i64 0, .int .i64 0, .int .i64 0, .int .i64 0, .bool tc, .bool false] 170)) (a1 : Ast w S1 t1 y1 b1) (ih1 : CloneOk t1) (aa : ∀ i t, l[i]? = some t → Ast w (SS i) t (ys i) (bs i)) (ok : ∀ t ∈ l, CloneOk t)
    (hSc : ¬ S c) (hc : w.heap[c]? = some (.cells cs T)) (hj : cs[j]? = some (.iface 112 (.pointer (some ⟨b, 0, none⟩)))) :
    Calls Tryf.prog 39 #[.pointer (some ⟨c, j, none⟩)] w fun e w' => Cloned w S c j cs T (.mk 13 ByteArray.empty 0 false (t1 :: l.map fun t => .mk 32 ByteArray.empty 0 false [t])) 112 e w' := by
  have hbc : b ≠ c := fun e => hSc (e ▸ hS)
  have nc1 : ¬ S1 c := fun h => hSc (s1 c h).1
  have q := cell_of hc hj
  have fz := fun i => unfrozen_of_block hc i
  have zc := heap_lt hc
  have zb := heap_lt hb
  have HBC := Lib.hid (begin_copy (j := j) (y := 112) hb hc hbc (zs := #[.nilIface, .slice none 0 0, .slice none 0 0, .slice none 0 0, .slice none 0 0, .slice none 0 0, .slice none 0 0, .pointer none, .slice none 0 0, .pointer none, .string ⟨#[]⟩, .int .i64 0, .int .i64 0, .int .i64 0, .int .i64 0, .bool false, .bool false]) rfl)
  have HM0 := Lib.hid (begin_mid (j := j) (y := 112) (CS := #[.iface y1 (.pointer (some ⟨b1, 0, none⟩)), .slice p2 0 n2, .slice a l.length cap, .slice p3 0 n3, .slice p4 0 n4, .slice p5 0 n5, .slice p0 0 n0, .pointer none, .slice p1 0 n1, .pointer none, .string ByteArray.empty, .int .i64 0, .int .i64 0, .int .i64 0, .int .i64 0, .bool tc, .bool false]) (TU := 170) hc)
  have HCL := Lib.hid (show (Tryf.prog.info? 170).map (·.size) = some 17 from by kernel_rfl)
  have HJ := Lib.hid (Array.getElem?_eq_some_iff.1 hj).1
  have HCSE := Lib.hid (fun (w2 : World) (CS' : Array Value) (hm : Mid w c j cs T 112 CS' 170 w2) => cse_any (cap := cap) hl hg hr aa ok hSc (fun i hi k h => (ss i hi k h).1) hm)
  have A1 := Lib.hid a1; have IH1 := Lib.hid ih1
  have HZ0 := HM0.out.size
  have HZ0 := Lib.hid HZ0
  have mk := mk_named
  clear hb hc hj hg hr aa ok a1 ih1
  go_enter Tryf.func39, Tryf.ntmps39
  go_wp2_with (first
    | (go_at_call 58; refine (HCSE.out _ _ HM1.out).mono ?_; rintro e w2 ⟨⟨g', cap', cur', bs', lo, rfl, hg1, hcap1, hrow1, hcells1, hlo1, hmono1, hast1⟩, hb1⟩; have HROW := Lib.hid ((hb1.block w.heap.size HM1.out.size).trans HM1.out.row); have HM2 := Lib.hid (mid_put HM1.out hb1 2 (.slice (some ⟨g', 0, none⟩) l.length cap')); have rf := fun i => unfrozen_of_block HROW.out i; have rc := cell_of (j := 2) HROW.out rfl; have rc3 := cell_of (j := 3) HROW.out rfl; have qc := HM2.out.at_ HJ.out; have HG1 := Lib.hid hg1; have HB1 := Lib.hid hb1; have HROW1 := Lib.hid hrow1; have HCE := Lib.hid hcells1; have HLO := Lib.hid hlo1; have HMO := Lib.hid hmono1; have HAS := Lib.hid hast1; clear hg1 hb1 hrow1 hcells1 hlo1 hmono1 hast1 rc0)
    | (go_at_call 39; refine (IH1.out _ _ y1 b1 w.heap.size 0 _ _ (HM0.out.ast A1.out nc1) (fun h => absurd h.2 (Nat.lt_irrefl _)) HM0.out.row rfl).mono ?_; rintro e w1 ⟨rfl, b1', hr1, hg1, ha1⟩; have HM1 := Lib.hid (HM0.out.step hr1 hg1); have HA1 := Lib.hid (cloned_sub ha1); have HZ1 := Lib.hid (Nat.lt_of_lt_of_le HZ0.out hg1.size); have HL1 := Lib.hid hg1.size; have qc := HM1.out.at_ HJ.out; have rc0 := cell_of (j := 2) HM1.out.row rfl; clear hr1 hg1 ha1)
    | (refine wpList_store_mid rfl _ _ _ rfl w.heap.size 0 #[.iface y1 (.pointer (some ⟨b1, 0, none⟩)), .slice p2 0 n2, .slice a l.length cap, .slice p3 0 n3, .slice p4 0 n4, .slice p5 0 n5, .slice p0 0 n0, .pointer none, .slice p1 0 n1, .pointer none, .string ByteArray.empty, .int .i64 0, .int .i64 0, .int .i64 0, .int .i64 0, .bool tc, .bool false] rfl rfl HBC.out.2.1 HCL.out rfl ?_)
    | (refine wpList_load_mid rfl _ _ rfl b 0 rfl [.iface y1 (.pointer (some ⟨b1, 0, none⟩)), .slice p2 0 n2, .slice a l.length cap, .slice p3 0 n3, .slice p4 0 n4, .slice p5 0 n5, .slice p0 0 n0, .pointer none, .slice p1 0 n1, .pointer none, .string ByteArray.empty, .int .i64 0, .int .i64 0, .int .i64 0, .int .i64 0, .bool tc, .bool false] _ HBC.out.1 Tryf.underlying170 rfl HCL.out ?_))
  have HP := Lib.hid (grown_set w2 w.heap.size 2 (.slice (some ⟨g', 0, none⟩) l.length cap'))
  clear rf rc rc3
  generalize hW : w2.setCell ⟨w.heap.size, 2, none⟩ (.slice (some ⟨g', 0, none⟩) l.length cap') = w5 at HM2 HP ⊢
  clear hW qc
  have qc := HM2.out.at_ HJ.out
  have x2 := cell_of (j := 2) HM2.out.row rfl
  have x3 := cell_of (j := 3) HM2.out.row rfl
  have xf := fun i => unfrozen_of_block HM2.out.row i
  have zr := HM2.out.size
  have hcr : ¬ c = w.heap.size := by omega
  have hrc : ¬ w.heap.size = c := by omega
  have HM3 := Lib.hid (mid_newrow HM2.out 3 (.slice (some ⟨w5.heap.size, 0, none⟩) 0 0) (.cells #[] 226))
  have HQ := Lib.hid (grown_alloc' (grown_set w5 w.heap.size 3 (.slice (some ⟨w5.heap.size, 0, none⟩) 0 0)) (.cells #[] 226))
  rcases p3 with _ | a3
  all_goals
    go_region
    all_goals
      generalize hW3 : ((w5.setCell ⟨w.heap.size, 3, none⟩ (.slice (some ⟨w5.heap.size, 0, none⟩) 0 0)).alloc (.cells #[] 226)).drew = w6 at HM3 HQ ⊢
      clear hW3 qc x2 x3 xf
      have qc := HM3.out.at_ HJ.out
      have x3 := cell_of (j := 3) HM3.out.row rfl
      go_wp2
      refine wp_loop_rounds 1 ?_
      rw [rounds_succ]
      go_wp2_with (go_at_call 62; refine (base_any (based_apply _) HM3.out.row (off := 6) rfl rfl).mono ?_; rintro e w9 ⟨rfl, hr9, hg9⟩)
      go_end0
      obtain ⟨g2, n, hm9⟩ := HM3.out.last hr9 hg9
      exact apply_end s1 ss dd HZ0.out HZ1.out HL1.out HA1.out HB1.out HG1.out HLO.out HMO.out hcap1 HROW1.out HCE.out HAS.out (grown_then HP.out (grown_then HQ.out hg9)) hm9 rfl
end Go.Proofs.YtceepfnjdkfjnaaFmt
