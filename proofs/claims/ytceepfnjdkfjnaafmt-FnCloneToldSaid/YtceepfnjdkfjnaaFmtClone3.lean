/-
  ast.clone, by kinds: those with two below. Conditions: none.
-/
import Derived.Test.YtceepfnjdkfjnaaFmtCloneDef
import Derived.Test.YtceepfnjdkfjnaaFmtCloneReg
namespace Go.Proofs.YtceepfnjdkfjnaaFmt
open Go.ChangeShapes Go.WideShapes Go.ChangeAt Go.RowKit Go.Joins
attribute [local go_sem] ta_Apply ta_ApplyBrace ta_Array ta_ArrayComp ta_Assert ta_Binary ta_Conditional ta_DesugaredObject ta_Dollar ta_Error ta_Function ta_Import ta_ImportBin ta_ImportStr ta_InSuper ta_Index ta_LiteralBoolean ta_LiteralNull ta_LiteralNumber ta_LiteralString ta_Local ta_Object ta_ObjectComp ta_Parens ta_Self ta_Slice ta_SuperIndex ta_Unary ta_Var
set_option maxRecDepth 100000 in
set_option maxHeartbeats 8000000 in
theorem clone_binary {w : World} {S : Nat → Prop} {S1 S2 : Nat → Prop} {t1 t2 : Tr} {y1 y2 : TypeId} {b1 b2 : Nat} (op : Int) {b c j : Nat} {cs : Array Value} {T : TypeId} {p0 p1 p2 : Option Addr} {n0 n1 n2 : Nat} (hS : S b)
    (s1 : ∀ k, S1 k → S k ∧ k ≠ b) (a1 : Ast w S1 t1 y1 b1) (ih1 : CloneOk t1)
    (s2 : ∀ k, S2 k → S k ∧ k ≠ b) (a2 : Ast w S2 t2 y2 b2) (ih2 : CloneOk t2)
    (d12 : ∀ k, S1 k → ¬ S2 k)
    (hb : w.heap[b]? = some (.cells #[.iface y2 (.pointer (some ⟨b2, 0, none⟩)), .iface y1 (.pointer (some ⟨b1, 0, none⟩)), .slice p2 0 n2, .slice p0 0 n0, .pointer none, .slice p1 0 n1, .pointer none, .string ByteArray.empty, .int .i64 0, .int .i64 0, .int .i64 0, .int .i64 0, .int .i64 op] 104))
    (hSc : ¬ S c) (hc : w.heap[c]? = some (.cells cs T)) (hj : cs[j]? = some (.iface 101 (.pointer (some ⟨b, 0, none⟩)))) :
    Calls Tryf.prog 39 #[.pointer (some ⟨c, j, none⟩)] w fun e w' => Cloned w S c j cs T (.mk 9 ByteArray.empty op false [t1, t2]) 101 e w' := by
  have hbc : b ≠ c := fun e => hSc (e ▸ hS)
  have q := cell_of hc hj
  have fz := fun i => unfrozen_of_block hc i
  have zc := heap_lt hc
  have zb := heap_lt hb
  have nc1 : ¬ S1 c := fun h => hSc (s1 c h).1
  have nc2 : ¬ S2 c := fun h => hSc (s2 c h).1
  have HBC := Lib.hid (begin_copy (j := j) (y := 101) hb hc hbc (zs := #[.nilIface, .nilIface, .slice none 0 0, .slice none 0 0, .pointer none, .slice none 0 0, .pointer none, .string ⟨#[]⟩, .int .i64 0, .int .i64 0, .int .i64 0, .int .i64 0, .int .i64 0]) rfl)
  have HM0 := Lib.hid (begin_mid (j := j) (y := 101) (CS := #[.iface y2 (.pointer (some ⟨b2, 0, none⟩)), .iface y1 (.pointer (some ⟨b1, 0, none⟩)), .slice p2 0 n2, .slice p0 0 n0, .pointer none, .slice p1 0 n1, .pointer none, .string ByteArray.empty, .int .i64 0, .int .i64 0, .int .i64 0, .int .i64 0, .int .i64 op]) (TU := 104) hc)
  have HCL := Lib.hid (show (Tryf.prog.info? 104).map (·.size) = some 13 from by kernel_rfl)
  have HZ0 := Lib.hid (show w.heap.size < ((w.setCell ⟨c, j, none⟩ (.iface 101 (.pointer (some ⟨w.heap.size, 0, none⟩)))).alloc (.cells #[.iface y2 (.pointer (some ⟨b2, 0, none⟩)), .iface y1 (.pointer (some ⟨b1, 0, none⟩)), .slice p2 0 n2, .slice p0 0 n0, .pointer none, .slice p1 0 n1, .pointer none, .string ByteArray.empty, .int .i64 0, .int .i64 0, .int .i64 0, .int .i64 0, .int .i64 op] 104)).heap.size from HM0.out.size)
  have HJ := Lib.hid (Array.getElem?_eq_some_iff.1 hj).1
  have A1 := Lib.hid a1; have IH1 := Lib.hid ih1
  have A2 := Lib.hid a2; have IH2 := Lib.hid ih2
  clear hb hc hj a1 ih1 a2 ih2
  go_enter Tryf.func39, Tryf.ntmps39
  go_wp2_with (first
    | (go_at_call 62; refine (base_any (based_binary _) HM2.out.row (off := 3) rfl rfl).mono ?_; rintro e w9 ⟨rfl, hr9, hg9⟩)
    | (go_at_call 39; refine (IH2.out _ _ y2 b2 w.heap.size 0 _ _ (HM1.out.ast A2.out nc2) (fun h => absurd h.2 (Nat.lt_irrefl _)) HM1.out.row rfl).mono ?_; rintro e w2 ⟨rfl, b2', hr, hg, ha⟩; have HM2 := Lib.hid (HM1.out.step hr hg); have HA1_2 := Lib.hid (sub_far HA1_1.out hg (HZ0.out)); have HA2_2 := Lib.hid (cloned_sub ha); have HZ2 := Lib.hid (Nat.lt_of_lt_of_le HZ1.out hg.size); have HL2 := Lib.hid hg.size; have qc := HM2.out.at_ HJ.out; clear hr hg ha)
    | (go_at_call 39; refine (IH1.out _ _ y1 b1 w.heap.size 1 _ _ (HM0.out.ast A1.out nc1) (fun h => absurd h.2 (Nat.lt_irrefl _)) HM0.out.row rfl).mono ?_; rintro e w1 ⟨rfl, b1', hr, hg, ha⟩; have HM1 := Lib.hid (HM0.out.step hr hg); have HA1_1 := Lib.hid (cloned_sub ha); have HZ1 := Lib.hid (Nat.lt_of_lt_of_le HZ0.out hg.size); have HL1 := Lib.hid hg.size; have qc := HM1.out.at_ HJ.out; clear hr hg ha)
    | (refine wpList_store_mid rfl _ _ _ rfl w.heap.size 0 #[.iface y2 (.pointer (some ⟨b2, 0, none⟩)), .iface y1 (.pointer (some ⟨b1, 0, none⟩)), .slice p2 0 n2, .slice p0 0 n0, .pointer none, .slice p1 0 n1, .pointer none, .string ByteArray.empty, .int .i64 0, .int .i64 0, .int .i64 0, .int .i64 0, .int .i64 op] rfl rfl HBC.out.2.1 HCL.out rfl ?_)
    | (refine wpList_load_mid rfl _ _ rfl b 0 rfl [.iface y2 (.pointer (some ⟨b2, 0, none⟩)), .iface y1 (.pointer (some ⟨b1, 0, none⟩)), .slice p2 0 n2, .slice p0 0 n0, .pointer none, .slice p1 0 n1, .pointer none, .string ByteArray.empty, .int .i64 0, .int .i64 0, .int .i64 0, .int .i64 0, .int .i64 op] _ HBC.out.1 Tryf.underlying104 rfl HCL.out ?_))
  go_end0
  obtain ⟨g, n, hm9⟩ := HM2.out.last hr9 hg9
  have hrow := hm9.row
  have ha1 := sub_far HA1_2.out hg9 HZ0.out
  have ha2 := sub_far HA2_2.out hg9 HZ1.out
  exact ⟨rfl, w.heap.size, hm9.cell, hm9.grown, .binary w.heap.size op p0 g p2 n0 n n2 (.inl (Nat.le_refl _)) (sub_in HZ0.out s1) (sub_in HZ1.out s2) (sub_apart d12 (Nat.le_refl _) (Nat.le_of_lt HZ0.out) (Nat.le_of_lt HZ1.out)) hrow ha1 ha2⟩
set_option maxRecDepth 100000 in
set_option maxHeartbeats 8000000 in
theorem clone_brace {w : World} {S : Nat → Prop} {S1 S2 : Nat → Prop} {t1 t2 : Tr} {y1 y2 : TypeId} {b1 b2 : Nat} {b c j : Nat} {cs : Array Value} {T : TypeId} {p0 p1 : Option Addr} {n0 n1 : Nat} (hS : S b)
    (s1 : ∀ k, S1 k → S k ∧ k ≠ b) (a1 : Ast w S1 t1 y1 b1) (ih1 : CloneOk t1)
    (s2 : ∀ k, S2 k → S k ∧ k ≠ b) (a2 : Ast w S2 t2 y2 b2) (ih2 : CloneOk t2)
    (d12 : ∀ k, S1 k → ¬ S2 k)
    (hb : w.heap[b]? = some (.cells #[.iface y1 (.pointer (some ⟨b1, 0, none⟩)), .iface y2 (.pointer (some ⟨b2, 0, none⟩)), .slice p0 0 n0, .pointer none, .slice p1 0 n1, .pointer none, .string ByteArray.empty, .int .i64 0, .int .i64 0, .int .i64 0, .int .i64 0] 116))
    (hSc : ¬ S c) (hc : w.heap[c]? = some (.cells cs T)) (hj : cs[j]? = some (.iface 114 (.pointer (some ⟨b, 0, none⟩)))) :
    Calls Tryf.prog 39 #[.pointer (some ⟨c, j, none⟩)] w fun e w' => Cloned w S c j cs T (.mk 14 ByteArray.empty 0 false [t1, t2]) 114 e w' := by
  have hbc : b ≠ c := fun e => hSc (e ▸ hS)
  have q := cell_of hc hj
  have fz := fun i => unfrozen_of_block hc i
  have zc := heap_lt hc
  have zb := heap_lt hb
  have nc1 : ¬ S1 c := fun h => hSc (s1 c h).1
  have nc2 : ¬ S2 c := fun h => hSc (s2 c h).1
  have HBC := Lib.hid (begin_copy (j := j) (y := 114) hb hc hbc (zs := #[.nilIface, .nilIface, .slice none 0 0, .pointer none, .slice none 0 0, .pointer none, .string ⟨#[]⟩, .int .i64 0, .int .i64 0, .int .i64 0, .int .i64 0]) rfl)
  have HM0 := Lib.hid (begin_mid (j := j) (y := 114) (CS := #[.iface y1 (.pointer (some ⟨b1, 0, none⟩)), .iface y2 (.pointer (some ⟨b2, 0, none⟩)), .slice p0 0 n0, .pointer none, .slice p1 0 n1, .pointer none, .string ByteArray.empty, .int .i64 0, .int .i64 0, .int .i64 0, .int .i64 0]) (TU := 116) hc)
  have HCL := Lib.hid (show (Tryf.prog.info? 116).map (·.size) = some 11 from by kernel_rfl)
  have HZ0 := Lib.hid (show w.heap.size < ((w.setCell ⟨c, j, none⟩ (.iface 114 (.pointer (some ⟨w.heap.size, 0, none⟩)))).alloc (.cells #[.iface y1 (.pointer (some ⟨b1, 0, none⟩)), .iface y2 (.pointer (some ⟨b2, 0, none⟩)), .slice p0 0 n0, .pointer none, .slice p1 0 n1, .pointer none, .string ByteArray.empty, .int .i64 0, .int .i64 0, .int .i64 0, .int .i64 0] 116)).heap.size from HM0.out.size)
  have HJ := Lib.hid (Array.getElem?_eq_some_iff.1 hj).1
  have A1 := Lib.hid a1; have IH1 := Lib.hid ih1
  have A2 := Lib.hid a2; have IH2 := Lib.hid ih2
  clear hb hc hj a1 ih1 a2 ih2
  go_enter Tryf.func39, Tryf.ntmps39
  go_wp2_with (first
    | (go_at_call 62; refine (base_any (based_brace _) HM2.out.row (off := 2) rfl rfl).mono ?_; rintro e w9 ⟨rfl, hr9, hg9⟩)
    | (go_at_call 39; refine (IH2.out _ _ y2 b2 w.heap.size 1 _ _ (HM1.out.ast A2.out nc2) (fun h => absurd h.2 (Nat.lt_irrefl _)) HM1.out.row rfl).mono ?_; rintro e w2 ⟨rfl, b2', hr, hg, ha⟩; have HM2 := Lib.hid (HM1.out.step hr hg); have HA1_2 := Lib.hid (sub_far HA1_1.out hg (HZ0.out)); have HA2_2 := Lib.hid (cloned_sub ha); have HZ2 := Lib.hid (Nat.lt_of_lt_of_le HZ1.out hg.size); have HL2 := Lib.hid hg.size; have qc := HM2.out.at_ HJ.out; clear hr hg ha)
    | (go_at_call 39; refine (IH1.out _ _ y1 b1 w.heap.size 0 _ _ (HM0.out.ast A1.out nc1) (fun h => absurd h.2 (Nat.lt_irrefl _)) HM0.out.row rfl).mono ?_; rintro e w1 ⟨rfl, b1', hr, hg, ha⟩; have HM1 := Lib.hid (HM0.out.step hr hg); have HA1_1 := Lib.hid (cloned_sub ha); have HZ1 := Lib.hid (Nat.lt_of_lt_of_le HZ0.out hg.size); have HL1 := Lib.hid hg.size; have qc := HM1.out.at_ HJ.out; clear hr hg ha)
    | (refine wpList_store_mid rfl _ _ _ rfl w.heap.size 0 #[.iface y1 (.pointer (some ⟨b1, 0, none⟩)), .iface y2 (.pointer (some ⟨b2, 0, none⟩)), .slice p0 0 n0, .pointer none, .slice p1 0 n1, .pointer none, .string ByteArray.empty, .int .i64 0, .int .i64 0, .int .i64 0, .int .i64 0] rfl rfl HBC.out.2.1 HCL.out rfl ?_)
    | (refine wpList_load_mid rfl _ _ rfl b 0 rfl [.iface y1 (.pointer (some ⟨b1, 0, none⟩)), .iface y2 (.pointer (some ⟨b2, 0, none⟩)), .slice p0 0 n0, .pointer none, .slice p1 0 n1, .pointer none, .string ByteArray.empty, .int .i64 0, .int .i64 0, .int .i64 0, .int .i64 0] _ HBC.out.1 Tryf.underlying116 rfl HCL.out ?_))
  go_end0
  obtain ⟨g, n, hm9⟩ := HM2.out.last hr9 hg9
  have hrow := hm9.row
  have ha1 := sub_far HA1_2.out hg9 HZ0.out
  have ha2 := sub_far HA2_2.out hg9 HZ1.out
  exact ⟨rfl, w.heap.size, hm9.cell, hm9.grown, .brace w.heap.size p0 g n0 n (.inl (Nat.le_refl _)) (sub_in HZ0.out s1) (sub_in HZ1.out s2) (sub_apart d12 (Nat.le_refl _) (Nat.le_of_lt HZ0.out) (Nat.le_of_lt HZ1.out)) hrow ha1 ha2⟩
set_option maxRecDepth 100000 in
set_option maxHeartbeats 8000000 in
theorem clone_index {w : World} {S : Nat → Prop} {S1 S2 : Nat → Prop} {t1 t2 : Tr} {y1 y2 : TypeId} {b1 b2 : Nat} {b c j : Nat} {cs : Array Value} {T : TypeId} {p0 p1 p2 p3 : Option Addr} {n0 n1 n2 n3 : Nat} (hS : S b)
    (s1 : ∀ k, S1 k → S k ∧ k ≠ b) (a1 : Ast w S1 t1 y1 b1) (ih1 : CloneOk t1)
    (s2 : ∀ k, S2 k → S k ∧ k ≠ b) (a2 : Ast w S2 t2 y2 b2) (ih2 : CloneOk t2)
    (d12 : ∀ k, S1 k → ¬ S2 k)
    (hb : w.heap[b]? = some (.cells #[.iface y1 (.pointer (some ⟨b1, 0, none⟩)), .iface y2 (.pointer (some ⟨b2, 0, none⟩)), .slice p2 0 n2, .slice p3 0 n3, .pointer none, .slice p0 0 n0, .pointer none, .slice p1 0 n1, .pointer none, .string ByteArray.empty, .int .i64 0, .int .i64 0, .int .i64 0, .int .i64 0] 120))
    (hSc : ¬ S c) (hc : w.heap[c]? = some (.cells cs T)) (hj : cs[j]? = some (.iface 117 (.pointer (some ⟨b, 0, none⟩)))) :
    Calls Tryf.prog 39 #[.pointer (some ⟨c, j, none⟩)] w fun e w' => Cloned w S c j cs T (.mk 15 ByteArray.empty 0 false [t1, t2]) 117 e w' := by
  have hbc : b ≠ c := fun e => hSc (e ▸ hS)
  have q := cell_of hc hj
  have fz := fun i => unfrozen_of_block hc i
  have zc := heap_lt hc
  have zb := heap_lt hb
  have nc1 : ¬ S1 c := fun h => hSc (s1 c h).1
  have nc2 : ¬ S2 c := fun h => hSc (s2 c h).1
  have HBC := Lib.hid (begin_copy (j := j) (y := 117) hb hc hbc (zs := #[.nilIface, .nilIface, .slice none 0 0, .slice none 0 0, .pointer none, .slice none 0 0, .pointer none, .slice none 0 0, .pointer none, .string ⟨#[]⟩, .int .i64 0, .int .i64 0, .int .i64 0, .int .i64 0]) rfl)
  have HM0 := Lib.hid (begin_mid (j := j) (y := 117) (CS := #[.iface y1 (.pointer (some ⟨b1, 0, none⟩)), .iface y2 (.pointer (some ⟨b2, 0, none⟩)), .slice p2 0 n2, .slice p3 0 n3, .pointer none, .slice p0 0 n0, .pointer none, .slice p1 0 n1, .pointer none, .string ByteArray.empty, .int .i64 0, .int .i64 0, .int .i64 0, .int .i64 0]) (TU := 120) hc)
  have HCL := Lib.hid (show (Tryf.prog.info? 120).map (·.size) = some 14 from by kernel_rfl)
  have HZ0 := Lib.hid (show w.heap.size < ((w.setCell ⟨c, j, none⟩ (.iface 117 (.pointer (some ⟨w.heap.size, 0, none⟩)))).alloc (.cells #[.iface y1 (.pointer (some ⟨b1, 0, none⟩)), .iface y2 (.pointer (some ⟨b2, 0, none⟩)), .slice p2 0 n2, .slice p3 0 n3, .pointer none, .slice p0 0 n0, .pointer none, .slice p1 0 n1, .pointer none, .string ByteArray.empty, .int .i64 0, .int .i64 0, .int .i64 0, .int .i64 0] 120)).heap.size from HM0.out.size)
  have HJ := Lib.hid (Array.getElem?_eq_some_iff.1 hj).1
  have A1 := Lib.hid a1; have IH1 := Lib.hid ih1
  have A2 := Lib.hid a2; have IH2 := Lib.hid ih2
  clear hb hc hj a1 ih1 a2 ih2
  go_enter Tryf.func39, Tryf.ntmps39
  go_wp2_with (first
    | (go_at_call 62; refine (base_any (based_index _) HM2.out.row (off := 5) rfl rfl).mono ?_; rintro e w9 ⟨rfl, hr9, hg9⟩)
    | (go_at_call 39; refine (IH2.out _ _ y2 b2 w.heap.size 1 _ _ (HM1.out.ast A2.out nc2) (fun h => absurd h.2 (Nat.lt_irrefl _)) HM1.out.row rfl).mono ?_; rintro e w2 ⟨rfl, b2', hr, hg, ha⟩; have HM2 := Lib.hid (HM1.out.step hr hg); have HA1_2 := Lib.hid (sub_far HA1_1.out hg (HZ0.out)); have HA2_2 := Lib.hid (cloned_sub ha); have HZ2 := Lib.hid (Nat.lt_of_lt_of_le HZ1.out hg.size); have HL2 := Lib.hid hg.size; have qc := HM2.out.at_ HJ.out; clear hr hg ha)
    | (go_at_call 39; refine (IH1.out _ _ y1 b1 w.heap.size 0 _ _ (HM0.out.ast A1.out nc1) (fun h => absurd h.2 (Nat.lt_irrefl _)) HM0.out.row rfl).mono ?_; rintro e w1 ⟨rfl, b1', hr, hg, ha⟩; have HM1 := Lib.hid (HM0.out.step hr hg); have HA1_1 := Lib.hid (cloned_sub ha); have HZ1 := Lib.hid (Nat.lt_of_lt_of_le HZ0.out hg.size); have HL1 := Lib.hid hg.size; have qc := HM1.out.at_ HJ.out; clear hr hg ha)
    | (refine wpList_store_mid rfl _ _ _ rfl w.heap.size 0 #[.iface y1 (.pointer (some ⟨b1, 0, none⟩)), .iface y2 (.pointer (some ⟨b2, 0, none⟩)), .slice p2 0 n2, .slice p3 0 n3, .pointer none, .slice p0 0 n0, .pointer none, .slice p1 0 n1, .pointer none, .string ByteArray.empty, .int .i64 0, .int .i64 0, .int .i64 0, .int .i64 0] rfl rfl HBC.out.2.1 HCL.out rfl ?_)
    | (refine wpList_load_mid rfl _ _ rfl b 0 rfl [.iface y1 (.pointer (some ⟨b1, 0, none⟩)), .iface y2 (.pointer (some ⟨b2, 0, none⟩)), .slice p2 0 n2, .slice p3 0 n3, .pointer none, .slice p0 0 n0, .pointer none, .slice p1 0 n1, .pointer none, .string ByteArray.empty, .int .i64 0, .int .i64 0, .int .i64 0, .int .i64 0] _ HBC.out.1 Tryf.underlying120 rfl HCL.out ?_))
  go_end0
  obtain ⟨g, n, hm9⟩ := HM2.out.last hr9 hg9
  have hrow := hm9.row
  have ha1 := sub_far HA1_2.out hg9 HZ0.out
  have ha2 := sub_far HA2_2.out hg9 HZ1.out
  exact ⟨rfl, w.heap.size, hm9.cell, hm9.grown, .index w.heap.size p0 g p2 p3 n0 n n2 n3 (.inl (Nat.le_refl _)) (sub_in HZ0.out s1) (sub_in HZ1.out s2) (sub_apart d12 (Nat.le_refl _) (Nat.le_of_lt HZ0.out) (Nat.le_of_lt HZ1.out)) hrow ha1 ha2⟩
end Go.Proofs.YtceepfnjdkfjnaaFmt
