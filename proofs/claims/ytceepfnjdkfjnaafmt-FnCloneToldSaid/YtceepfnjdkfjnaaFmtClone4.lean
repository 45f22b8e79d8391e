/-
  ast.clone, by kinds: a condition. Conditions: none.
-/
import Derived.Test.YtceepfnjdkfjnaaFmtCloneDef
import Derived.Test.YtceepfnjdkfjnaaFmtCloneReg
namespace Go.Proofs.YtceepfnjdkfjnaaFmt
open Go.ChangeShapes Go.WideShapes Go.ChangeAt Go.RowKit Go.Joins
attribute [local go_sem] ta_Apply ta_ApplyBrace ta_Array ta_ArrayComp ta_Assert ta_Binary ta_Conditional ta_DesugaredObject ta_Dollar ta_Error ta_Function ta_Import ta_ImportBin ta_ImportStr ta_InSuper ta_Index ta_LiteralBoolean ta_LiteralNull ta_LiteralNumber ta_LiteralString ta_Local ta_Object ta_ObjectComp ta_Parens ta_Self ta_Slice ta_SuperIndex ta_Unary ta_Var
set_option maxRecDepth 100000 in
set_option maxHeartbeats 8000000 in
theorem clone_if2 {w : World} {S : Nat → Prop} {S1 S2 : Nat → Prop} {t1 t2 : Tr} {y1 y2 : TypeId} {b1 b2 : Nat} {b c j : Nat} {cs : Array Value} {T : TypeId} {p0 p1 p2 p3 : Option Addr} {n0 n1 n2 n3 : Nat} (hS : S b)
    (s1 : ∀ k, S1 k → S k ∧ k ≠ b) (a1 : Ast w S1 t1 y1 b1) (ih1 : CloneOk t1)
    (s2 : ∀ k, S2 k → S k ∧ k ≠ b) (a2 : Ast w S2 t2 y2 b2) (ih2 : CloneOk t2)
    (d12 : ∀ k, S1 k → ¬ S2 k)
    (hb : w.heap[b]? = some (.cells #[.iface y1 (.pointer (some ⟨b1, 0, none⟩)), .iface y2 (.pointer (some ⟨b2, 0, none⟩)), .nilIface, .slice p2 0 n2, .slice p3 0 n3, .slice p0 0 n0, .pointer none, .slice p1 0 n1, .pointer none, .string ByteArray.empty, .int .i64 0, .int .i64 0, .int .i64 0, .int .i64 0] 107))
    (hSc : ¬ S c) (hc : w.heap[c]? = some (.cells cs T)) (hj : cs[j]? = some (.iface 105 (.pointer (some ⟨b, 0, none⟩)))) :
    Calls Tryf.prog 39 #[.pointer (some ⟨c, j, none⟩)] w fun e w' => Cloned w S c j cs T (.mk 10 ByteArray.empty 0 false [t1, t2]) 105 e w' := by
  have hbc : b ≠ c := fun e => hSc (e ▸ hS)
  have q := cell_of hc hj
  have fz := fun i => unfrozen_of_block hc i
  have zc := heap_lt hc
  have zb := heap_lt hb
  have nc1 : ¬ S1 c := fun h => hSc (s1 c h).1
  have nc2 : ¬ S2 c := fun h => hSc (s2 c h).1
  have HBC := Lib.hid (begin_copy (j := j) (y := 105) hb hc hbc (zs := #[.nilIface, .nilIface, .nilIface, .slice none 0 0, .slice none 0 0, .slice none 0 0, .pointer none, .slice none 0 0, .pointer none, .string ⟨#[]⟩, .int .i64 0, .int .i64 0, .int .i64 0, .int .i64 0]) rfl)
  have HM0 := Lib.hid (begin_mid (j := j) (y := 105) (CS := #[.iface y1 (.pointer (some ⟨b1, 0, none⟩)), .iface y2 (.pointer (some ⟨b2, 0, none⟩)), .nilIface, .slice p2 0 n2, .slice p3 0 n3, .slice p0 0 n0, .pointer none, .slice p1 0 n1, .pointer none, .string ByteArray.empty, .int .i64 0, .int .i64 0, .int .i64 0, .int .i64 0]) (TU := 107) hc)
  have HCL := Lib.hid (show (Tryf.prog.info? 107).map (·.size) = some 14 from by kernel_rfl)
  have HZ0 := Lib.hid (show w.heap.size < ((w.setCell ⟨c, j, none⟩ (.iface 105 (.pointer (some ⟨w.heap.size, 0, none⟩)))).alloc (.cells #[.iface y1 (.pointer (some ⟨b1, 0, none⟩)), .iface y2 (.pointer (some ⟨b2, 0, none⟩)), .nilIface, .slice p2 0 n2, .slice p3 0 n3, .slice p0 0 n0, .pointer none, .slice p1 0 n1, .pointer none, .string ByteArray.empty, .int .i64 0, .int .i64 0, .int .i64 0, .int .i64 0] 107)).heap.size from HM0.out.size)
  have HJ := Lib.hid (Array.getElem?_eq_some_iff.1 hj).1
  have A1 := Lib.hid a1; have IH1 := Lib.hid ih1
  have A2 := Lib.hid a2; have IH2 := Lib.hid ih2
  clear hb hc hj a1 ih1 a2 ih2
  go_enter Tryf.func39, Tryf.ntmps39
  go_wp2_with (first
    | (go_at_call 62; refine (base_any (based_if _) HM3.out.row (off := 5) rfl rfl).mono ?_; rintro e w9 ⟨rfl, hr9, hg9⟩)
    | (go_at_call 39; refine (clone_nil HM2.out.row (j := 2) rfl).mono ?_; rintro e w3 ⟨rfl, rfl⟩; have HM3 := Lib.hid HM2.out; have HA1_3 := Lib.hid HA1_2.out; have HA2_3 := Lib.hid HA2_2.out; have HZ3 := Lib.hid HZ2.out)
    | (go_at_call 39; refine (IH2.out _ _ y2 b2 w.heap.size 1 _ _ (HM1.out.ast A2.out nc2) (fun h => absurd h.2 (Nat.lt_irrefl _)) HM1.out.row rfl).mono ?_; rintro e w2 ⟨rfl, b2', hr, hg, ha⟩; have HM2 := Lib.hid (HM1.out.step hr hg); have HA1_2 := Lib.hid (sub_far HA1_1.out hg (HZ0.out)); have HA2_2 := Lib.hid (cloned_sub ha); have HZ2 := Lib.hid (Nat.lt_of_lt_of_le HZ1.out hg.size); have HL2 := Lib.hid hg.size; have qc := HM2.out.at_ HJ.out; clear hr hg ha)
    | (go_at_call 39; refine (IH1.out _ _ y1 b1 w.heap.size 0 _ _ (HM0.out.ast A1.out nc1) (fun h => absurd h.2 (Nat.lt_irrefl _)) HM0.out.row rfl).mono ?_; rintro e w1 ⟨rfl, b1', hr, hg, ha⟩; have HM1 := Lib.hid (HM0.out.step hr hg); have HA1_1 := Lib.hid (cloned_sub ha); have HZ1 := Lib.hid (Nat.lt_of_lt_of_le HZ0.out hg.size); have HL1 := Lib.hid hg.size; have qc := HM1.out.at_ HJ.out; clear hr hg ha)
    | (refine wpList_store_mid rfl _ _ _ rfl w.heap.size 0 #[.iface y1 (.pointer (some ⟨b1, 0, none⟩)), .iface y2 (.pointer (some ⟨b2, 0, none⟩)), .nilIface, .slice p2 0 n2, .slice p3 0 n3, .slice p0 0 n0, .pointer none, .slice p1 0 n1, .pointer none, .string ByteArray.empty, .int .i64 0, .int .i64 0, .int .i64 0, .int .i64 0] rfl rfl HBC.out.2.1 HCL.out rfl ?_)
    | (refine wpList_load_mid rfl _ _ rfl b 0 rfl [.iface y1 (.pointer (some ⟨b1, 0, none⟩)), .iface y2 (.pointer (some ⟨b2, 0, none⟩)), .nilIface, .slice p2 0 n2, .slice p3 0 n3, .slice p0 0 n0, .pointer none, .slice p1 0 n1, .pointer none, .string ByteArray.empty, .int .i64 0, .int .i64 0, .int .i64 0, .int .i64 0] _ HBC.out.1 Tryf.underlying107 rfl HCL.out ?_))
  go_end0
  obtain ⟨g, n, hm9⟩ := HM3.out.last hr9 hg9
  have hrow := hm9.row
  have ha1 := sub_far HA1_3.out hg9 HZ0.out
  have ha2 := sub_far HA2_3.out hg9 HZ1.out
  exact ⟨rfl, w.heap.size, hm9.cell, hm9.grown, .if2 w.heap.size p0 g p2 p3 n0 n n2 n3 (.inl (Nat.le_refl _)) (sub_in HZ0.out s1) (sub_in HZ1.out s2) (sub_apart d12 (Nat.le_refl _) (Nat.le_of_lt HZ0.out) (Nat.le_of_lt HZ1.out)) hrow ha1 ha2⟩
set_option maxRecDepth 100000 in
set_option maxHeartbeats 8000000 in
theorem clone_if3 {w : World} {S : Nat → Prop} {S1 S2 S3 : Nat → Prop} {t1 t2 t3 : Tr} {y1 y2 y3 : TypeId} {b1 b2 b3 : Nat} {b c j : Nat} {cs : Array Value} {T : TypeId} {p0 p1 p2 p3 : Option Addr} {n0 n1 n2 n3 : Nat} (hS : S b)
    (s1 : ∀ k, S1 k → S k ∧ k ≠ b) (a1 : Ast w S1 t1 y1 b1) (ih1 : CloneOk t1)
    (s2 : ∀ k, S2 k → S k ∧ k ≠ b) (a2 : Ast w S2 t2 y2 b2) (ih2 : CloneOk t2)
    (s3 : ∀ k, S3 k → S k ∧ k ≠ b) (a3 : Ast w S3 t3 y3 b3) (ih3 : CloneOk t3)
    (d12 : ∀ k, S1 k → ¬ S2 k)
    (d13 : ∀ k, S1 k → ¬ S3 k)
    (d23 : ∀ k, S2 k → ¬ S3 k)
    (hb : w.heap[b]? = some (.cells #[.iface y1 (.pointer (some ⟨b1, 0, none⟩)), .iface y2 (.pointer (some ⟨b2, 0, none⟩)), .iface y3 (.pointer (some ⟨b3, 0, none⟩)), .slice p2 0 n2, .slice p3 0 n3, .slice p0 0 n0, .pointer none, .slice p1 0 n1, .pointer none, .string ByteArray.empty, .int .i64 0, .int .i64 0, .int .i64 0, .int .i64 0] 107))
    (hSc : ¬ S c) (hc : w.heap[c]? = some (.cells cs T)) (hj : cs[j]? = some (.iface 105 (.pointer (some ⟨b, 0, none⟩)))) :
    Calls Tryf.prog 39 #[.pointer (some ⟨c, j, none⟩)] w fun e w' => Cloned w S c j cs T (.mk 10 ByteArray.empty 0 false [t1, t2, t3]) 105 e w' := by
  have hbc : b ≠ c := fun e => hSc (e ▸ hS)
  have q := cell_of hc hj
  have fz := fun i => unfrozen_of_block hc i
  have zc := heap_lt hc
  have zb := heap_lt hb
  have nc1 : ¬ S1 c := fun h => hSc (s1 c h).1
  have nc2 : ¬ S2 c := fun h => hSc (s2 c h).1
  have nc3 : ¬ S3 c := fun h => hSc (s3 c h).1
  have HBC := Lib.hid (begin_copy (j := j) (y := 105) hb hc hbc (zs := #[.nilIface, .nilIface, .nilIface, .slice none 0 0, .slice none 0 0, .slice none 0 0, .pointer none, .slice none 0 0, .pointer none, .string ⟨#[]⟩, .int .i64 0, .int .i64 0, .int .i64 0, .int .i64 0]) rfl)
  have HM0 := Lib.hid (begin_mid (j := j) (y := 105) (CS := #[.iface y1 (.pointer (some ⟨b1, 0, none⟩)), .iface y2 (.pointer (some ⟨b2, 0, none⟩)), .iface y3 (.pointer (some ⟨b3, 0, none⟩)), .slice p2 0 n2, .slice p3 0 n3, .slice p0 0 n0, .pointer none, .slice p1 0 n1, .pointer none, .string ByteArray.empty, .int .i64 0, .int .i64 0, .int .i64 0, .int .i64 0]) (TU := 107) hc)
  have HCL := Lib.hid (show (Tryf.prog.info? 107).map (·.size) = some 14 from by kernel_rfl)
  have HZ0 := Lib.hid (show w.heap.size < ((w.setCell ⟨c, j, none⟩ (.iface 105 (.pointer (some ⟨w.heap.size, 0, none⟩)))).alloc (.cells #[.iface y1 (.pointer (some ⟨b1, 0, none⟩)), .iface y2 (.pointer (some ⟨b2, 0, none⟩)), .iface y3 (.pointer (some ⟨b3, 0, none⟩)), .slice p2 0 n2, .slice p3 0 n3, .slice p0 0 n0, .pointer none, .slice p1 0 n1, .pointer none, .string ByteArray.empty, .int .i64 0, .int .i64 0, .int .i64 0, .int .i64 0] 107)).heap.size from HM0.out.size)
  have HJ := Lib.hid (Array.getElem?_eq_some_iff.1 hj).1
  have A1 := Lib.hid a1; have IH1 := Lib.hid ih1
  have A2 := Lib.hid a2; have IH2 := Lib.hid ih2
  have A3 := Lib.hid a3; have IH3 := Lib.hid ih3
  clear hb hc hj a1 ih1 a2 ih2 a3 ih3
  go_enter Tryf.func39, Tryf.ntmps39
  go_wp2_with (first
    | (go_at_call 62; refine (base_any (based_if _) HM3.out.row (off := 5) rfl rfl).mono ?_; rintro e w9 ⟨rfl, hr9, hg9⟩)
    | (go_at_call 39; refine (IH3.out _ _ y3 b3 w.heap.size 2 _ _ (HM2.out.ast A3.out nc3) (fun h => absurd h.2 (Nat.lt_irrefl _)) HM2.out.row rfl).mono ?_; rintro e w3 ⟨rfl, b3', hr, hg, ha⟩; have HM3 := Lib.hid (HM2.out.step hr hg); have HA1_3 := Lib.hid (sub_far HA1_2.out hg (HZ0.out)); have HA2_3 := Lib.hid (sub_far HA2_2.out hg (HZ1.out)); have HA3_3 := Lib.hid (cloned_sub ha); have HZ3 := Lib.hid (Nat.lt_of_lt_of_le HZ2.out hg.size); have HL3 := Lib.hid hg.size; have qc := HM3.out.at_ HJ.out; clear hr hg ha)
    | (go_at_call 39; refine (IH2.out _ _ y2 b2 w.heap.size 1 _ _ (HM1.out.ast A2.out nc2) (fun h => absurd h.2 (Nat.lt_irrefl _)) HM1.out.row rfl).mono ?_; rintro e w2 ⟨rfl, b2', hr, hg, ha⟩; have HM2 := Lib.hid (HM1.out.step hr hg); have HA1_2 := Lib.hid (sub_far HA1_1.out hg (HZ0.out)); have HA2_2 := Lib.hid (cloned_sub ha); have HZ2 := Lib.hid (Nat.lt_of_lt_of_le HZ1.out hg.size); have HL2 := Lib.hid hg.size; have qc := HM2.out.at_ HJ.out; clear hr hg ha)
    | (go_at_call 39; refine (IH1.out _ _ y1 b1 w.heap.size 0 _ _ (HM0.out.ast A1.out nc1) (fun h => absurd h.2 (Nat.lt_irrefl _)) HM0.out.row rfl).mono ?_; rintro e w1 ⟨rfl, b1', hr, hg, ha⟩; have HM1 := Lib.hid (HM0.out.step hr hg); have HA1_1 := Lib.hid (cloned_sub ha); have HZ1 := Lib.hid (Nat.lt_of_lt_of_le HZ0.out hg.size); have HL1 := Lib.hid hg.size; have qc := HM1.out.at_ HJ.out; clear hr hg ha)
    | (refine wpList_store_mid rfl _ _ _ rfl w.heap.size 0 #[.iface y1 (.pointer (some ⟨b1, 0, none⟩)), .iface y2 (.pointer (some ⟨b2, 0, none⟩)), .iface y3 (.pointer (some ⟨b3, 0, none⟩)), .slice p2 0 n2, .slice p3 0 n3, .slice p0 0 n0, .pointer none, .slice p1 0 n1, .pointer none, .string ByteArray.empty, .int .i64 0, .int .i64 0, .int .i64 0, .int .i64 0] rfl rfl HBC.out.2.1 HCL.out rfl ?_)
    | (refine wpList_load_mid rfl _ _ rfl b 0 rfl [.iface y1 (.pointer (some ⟨b1, 0, none⟩)), .iface y2 (.pointer (some ⟨b2, 0, none⟩)), .iface y3 (.pointer (some ⟨b3, 0, none⟩)), .slice p2 0 n2, .slice p3 0 n3, .slice p0 0 n0, .pointer none, .slice p1 0 n1, .pointer none, .string ByteArray.empty, .int .i64 0, .int .i64 0, .int .i64 0, .int .i64 0] _ HBC.out.1 Tryf.underlying107 rfl HCL.out ?_))
  go_end0
  obtain ⟨g, n, hm9⟩ := HM3.out.last hr9 hg9
  have hrow := hm9.row
  have ha1 := sub_far HA1_3.out hg9 HZ0.out
  have ha2 := sub_far HA2_3.out hg9 HZ1.out
  have ha3 := sub_far HA3_3.out hg9 HZ2.out
  exact ⟨rfl, w.heap.size, hm9.cell, hm9.grown, .if3 w.heap.size p0 g p2 p3 n0 n n2 n3 (.inl (Nat.le_refl _)) (sub_in HZ0.out s1) (sub_in HZ1.out s2) (sub_in HZ2.out s3) (sub_apart d12 (Nat.le_refl _) (Nat.le_of_lt HZ0.out) (Nat.le_of_lt HZ1.out)) (sub_apart d13 HL2.out (Nat.le_of_lt HZ0.out) (Nat.le_of_lt HZ2.out)) (sub_apart d23 (Nat.le_refl _) (Nat.le_of_lt HZ1.out) (Nat.le_of_lt HZ2.out)) hrow ha1 ha2 ha3⟩
end Go.Proofs.YtceepfnjdkfjnaaFmt
