/-
  ast.clone, by kinds: those with one below. Conditions: none.
-/
import Derived.Test.YtceepfnjdkfjnaaFmtCloneDef
import Derived.Test.YtceepfnjdkfjnaaFmtCloneReg
namespace Go.Proofs.YtceepfnjdkfjnaaFmt
open Go.ChangeShapes Go.WideShapes Go.ChangeAt Go.RowKit Go.Joins
attribute [local go_sem] ta_Apply ta_ApplyBrace ta_Array ta_ArrayComp ta_Assert ta_Binary ta_Conditional ta_DesugaredObject ta_Dollar ta_Error ta_Function ta_Import ta_ImportBin ta_ImportStr ta_InSuper ta_Index ta_LiteralBoolean ta_LiteralNull ta_LiteralNumber ta_LiteralString ta_Local ta_Object ta_ObjectComp ta_Parens ta_Self ta_Slice ta_SuperIndex ta_Unary ta_Var
set_option maxRecDepth 100000 in
set_option maxHeartbeats 8000000 in
theorem clone_unary {w : World} {S : Nat → Prop} {S1 : Nat → Prop} {t1 : Tr} {y1 : TypeId} {b1 : Nat} (op : Int) {b c j : Nat} {cs : Array Value} {T : TypeId} {p0 p1 : Option Addr} {n0 n1 : Nat} (hS : S b)
    (s1 : ∀ k, S1 k → S k ∧ k ≠ b) (a1 : Ast w S1 t1 y1 b1) (ih1 : CloneOk t1)
    (hb : w.heap[b]? = some (.cells #[.iface y1 (.pointer (some ⟨b1, 0, none⟩)), .slice p0 0 n0, .pointer none, .slice p1 0 n1, .pointer none, .string ByteArray.empty, .int .i64 0, .int .i64 0, .int .i64 0, .int .i64 0, .int .i64 op] 100))
    (hSc : ¬ S c) (hc : w.heap[c]? = some (.cells cs T)) (hj : cs[j]? = some (.iface 96 (.pointer (some ⟨b, 0, none⟩)))) :
    Calls Tryf.prog 39 #[.pointer (some ⟨c, j, none⟩)] w fun e w' => Cloned w S c j cs T (.mk 8 ByteArray.empty op false [t1]) 96 e w' := by
  have hbc : b ≠ c := fun e => hSc (e ▸ hS)
  have q := cell_of hc hj
  have fz := fun i => unfrozen_of_block hc i
  have zc := heap_lt hc
  have zb := heap_lt hb
  have nc1 : ¬ S1 c := fun h => hSc (s1 c h).1
  have HBC := Lib.hid (begin_copy (j := j) (y := 96) hb hc hbc (zs := #[.nilIface, .slice none 0 0, .pointer none, .slice none 0 0, .pointer none, .string ⟨#[]⟩, .int .i64 0, .int .i64 0, .int .i64 0, .int .i64 0, .int .i64 0]) rfl)
  have HM0 := Lib.hid (begin_mid (j := j) (y := 96) (CS := #[.iface y1 (.pointer (some ⟨b1, 0, none⟩)), .slice p0 0 n0, .pointer none, .slice p1 0 n1, .pointer none, .string ByteArray.empty, .int .i64 0, .int .i64 0, .int .i64 0, .int .i64 0, .int .i64 op]) (TU := 100) hc)
  have HCL := Lib.hid (show (Tryf.prog.info? 100).map (·.size) = some 11 from by kernel_rfl)
  have HZ0 := Lib.hid (show w.heap.size < ((w.setCell ⟨c, j, none⟩ (.iface 96 (.pointer (some ⟨w.heap.size, 0, none⟩)))).alloc (.cells #[.iface y1 (.pointer (some ⟨b1, 0, none⟩)), .slice p0 0 n0, .pointer none, .slice p1 0 n1, .pointer none, .string ByteArray.empty, .int .i64 0, .int .i64 0, .int .i64 0, .int .i64 0, .int .i64 op] 100)).heap.size from HM0.out.size)
  have HJ := Lib.hid (Array.getElem?_eq_some_iff.1 hj).1
  have A1 := Lib.hid a1; have IH1 := Lib.hid ih1
  clear hb hc hj a1 ih1
  go_enter Tryf.func39, Tryf.ntmps39
  go_wp2_with (first
    | (go_at_call 62; refine (base_any (based_unary _) HM1.out.row (off := 1) rfl rfl).mono ?_; rintro e w9 ⟨rfl, hr9, hg9⟩)
    | (go_at_call 39; refine (IH1.out _ _ y1 b1 w.heap.size 0 _ _ (HM0.out.ast A1.out nc1) (fun h => absurd h.2 (Nat.lt_irrefl _)) HM0.out.row rfl).mono ?_; rintro e w1 ⟨rfl, b1', hr, hg, ha⟩; have HM1 := Lib.hid (HM0.out.step hr hg); have HA1_1 := Lib.hid (cloned_sub ha); have HZ1 := Lib.hid (Nat.lt_of_lt_of_le HZ0.out hg.size); have HL1 := Lib.hid hg.size; have qc := HM1.out.at_ HJ.out; clear hr hg ha)
    | (refine wpList_store_mid rfl _ _ _ rfl w.heap.size 0 #[.iface y1 (.pointer (some ⟨b1, 0, none⟩)), .slice p0 0 n0, .pointer none, .slice p1 0 n1, .pointer none, .string ByteArray.empty, .int .i64 0, .int .i64 0, .int .i64 0, .int .i64 0, .int .i64 op] rfl rfl HBC.out.2.1 HCL.out rfl ?_)
    | (refine wpList_load_mid rfl _ _ rfl b 0 rfl [.iface y1 (.pointer (some ⟨b1, 0, none⟩)), .slice p0 0 n0, .pointer none, .slice p1 0 n1, .pointer none, .string ByteArray.empty, .int .i64 0, .int .i64 0, .int .i64 0, .int .i64 0, .int .i64 op] _ HBC.out.1 Tryf.underlying100 rfl HCL.out ?_))
  go_end0
  obtain ⟨g, n, hm9⟩ := HM1.out.last hr9 hg9
  have hrow := hm9.row
  have ha1 := sub_far HA1_1.out hg9 HZ0.out
  exact ⟨rfl, w.heap.size, hm9.cell, hm9.grown, .unary w.heap.size op p0 g n0 n (.inl (Nat.le_refl _)) (sub_in HZ0.out s1) hrow ha1⟩
set_option maxRecDepth 100000 in
set_option maxHeartbeats 8000000 in
theorem clone_error {w : World} {S : Nat → Prop} {S1 : Nat → Prop} {t1 : Tr} {y1 : TypeId} {b1 : Nat} {b c j : Nat} {cs : Array Value} {T : TypeId} {p0 p1 : Option Addr} {n0 n1 : Nat} (hS : S b)
    (s1 : ∀ k, S1 k → S k ∧ k ≠ b) (a1 : Ast w S1 t1 y1 b1) (ih1 : CloneOk t1)
    (hb : w.heap[b]? = some (.cells #[.iface y1 (.pointer (some ⟨b1, 0, none⟩)), .slice p0 0 n0, .pointer none, .slice p1 0 n1, .pointer none, .string ByteArray.empty, .int .i64 0, .int .i64 0, .int .i64 0, .int .i64 0] 153))
    (hSc : ¬ S c) (hc : w.heap[c]? = some (.cells cs T)) (hj : cs[j]? = some (.iface 151 (.pointer (some ⟨b, 0, none⟩)))) :
    Calls Tryf.prog 39 #[.pointer (some ⟨c, j, none⟩)] w fun e w' => Cloned w S c j cs T (.mk 23 ByteArray.empty 0 false [t1]) 151 e w' := by
  have hbc : b ≠ c := fun e => hSc (e ▸ hS)
  have q := cell_of hc hj
  have fz := fun i => unfrozen_of_block hc i
  have zc := heap_lt hc
  have zb := heap_lt hb
  have nc1 : ¬ S1 c := fun h => hSc (s1 c h).1
  have HBC := Lib.hid (begin_copy (j := j) (y := 151) hb hc hbc (zs := #[.nilIface, .slice none 0 0, .pointer none, .slice none 0 0, .pointer none, .string ⟨#[]⟩, .int .i64 0, .int .i64 0, .int .i64 0, .int .i64 0]) rfl)
  have HM0 := Lib.hid (begin_mid (j := j) (y := 151) (CS := #[.iface y1 (.pointer (some ⟨b1, 0, none⟩)), .slice p0 0 n0, .pointer none, .slice p1 0 n1, .pointer none, .string ByteArray.empty, .int .i64 0, .int .i64 0, .int .i64 0, .int .i64 0]) (TU := 153) hc)
  have HCL := Lib.hid (show (Tryf.prog.info? 153).map (·.size) = some 10 from by kernel_rfl)
  have HZ0 := Lib.hid (show w.heap.size < ((w.setCell ⟨c, j, none⟩ (.iface 151 (.pointer (some ⟨w.heap.size, 0, none⟩)))).alloc (.cells #[.iface y1 (.pointer (some ⟨b1, 0, none⟩)), .slice p0 0 n0, .pointer none, .slice p1 0 n1, .pointer none, .string ByteArray.empty, .int .i64 0, .int .i64 0, .int .i64 0, .int .i64 0] 153)).heap.size from HM0.out.size)
  have HJ := Lib.hid (Array.getElem?_eq_some_iff.1 hj).1
  have A1 := Lib.hid a1; have IH1 := Lib.hid ih1
  clear hb hc hj a1 ih1
  go_enter Tryf.func39, Tryf.ntmps39
  go_wp2_with (first
    | (go_at_call 62; refine (base_any (based_error _) HM1.out.row (off := 1) rfl rfl).mono ?_; rintro e w9 ⟨rfl, hr9, hg9⟩)
    | (go_at_call 39; refine (IH1.out _ _ y1 b1 w.heap.size 0 _ _ (HM0.out.ast A1.out nc1) (fun h => absurd h.2 (Nat.lt_irrefl _)) HM0.out.row rfl).mono ?_; rintro e w1 ⟨rfl, b1', hr, hg, ha⟩; have HM1 := Lib.hid (HM0.out.step hr hg); have HA1_1 := Lib.hid (cloned_sub ha); have HZ1 := Lib.hid (Nat.lt_of_lt_of_le HZ0.out hg.size); have HL1 := Lib.hid hg.size; have qc := HM1.out.at_ HJ.out; clear hr hg ha)
    | (refine wpList_store_mid rfl _ _ _ rfl w.heap.size 0 #[.iface y1 (.pointer (some ⟨b1, 0, none⟩)), .slice p0 0 n0, .pointer none, .slice p1 0 n1, .pointer none, .string ByteArray.empty, .int .i64 0, .int .i64 0, .int .i64 0, .int .i64 0] rfl rfl HBC.out.2.1 HCL.out rfl ?_)
    | (refine wpList_load_mid rfl _ _ rfl b 0 rfl [.iface y1 (.pointer (some ⟨b1, 0, none⟩)), .slice p0 0 n0, .pointer none, .slice p1 0 n1, .pointer none, .string ByteArray.empty, .int .i64 0, .int .i64 0, .int .i64 0, .int .i64 0] _ HBC.out.1 Tryf.underlying153 rfl HCL.out ?_))
  go_end0
  obtain ⟨g, n, hm9⟩ := HM1.out.last hr9 hg9
  have hrow := hm9.row
  have ha1 := sub_far HA1_1.out hg9 HZ0.out
  exact ⟨rfl, w.heap.size, hm9.cell, hm9.grown, .error w.heap.size p0 g n0 n (.inl (Nat.le_refl _)) (sub_in HZ0.out s1) hrow ha1⟩
set_option maxRecDepth 100000 in
set_option maxHeartbeats 8000000 in
theorem clone_parens {w : World} {S : Nat → Prop} {S1 : Nat → Prop} {t1 : Tr} {y1 : TypeId} {b1 : Nat} {b c j : Nat} {cs : Array Value} {T : TypeId} {p0 p1 p2 : Option Addr} {n0 n1 n2 : Nat} (hS : S b)
    (s1 : ∀ k, S1 k → S k ∧ k ≠ b) (a1 : Ast w S1 t1 y1 b1) (ih1 : CloneOk t1)
    (hb : w.heap[b]? = some (.cells #[.iface y1 (.pointer (some ⟨b1, 0, none⟩)), .slice p2 0 n2, .slice p0 0 n0, .pointer none, .slice p1 0 n1, .pointer none, .string ByteArray.empty, .int .i64 0, .int .i64 0, .int .i64 0, .int .i64 0] 162))
    (hSc : ¬ S c) (hc : w.heap[c]? = some (.cells cs T)) (hj : cs[j]? = some (.iface 160 (.pointer (some ⟨b, 0, none⟩)))) :
    Calls Tryf.prog 39 #[.pointer (some ⟨c, j, none⟩)] w fun e w' => Cloned w S c j cs T (.mk 28 ByteArray.empty 0 false [t1]) 160 e w' := by
  have hbc : b ≠ c := fun e => hSc (e ▸ hS)
  have q := cell_of hc hj
  have fz := fun i => unfrozen_of_block hc i
  have zc := heap_lt hc
  have zb := heap_lt hb
  have nc1 : ¬ S1 c := fun h => hSc (s1 c h).1
  have HBC := Lib.hid (begin_copy (j := j) (y := 160) hb hc hbc (zs := #[.nilIface, .slice none 0 0, .slice none 0 0, .pointer none, .slice none 0 0, .pointer none, .string ⟨#[]⟩, .int .i64 0, .int .i64 0, .int .i64 0, .int .i64 0]) rfl)
  have HM0 := Lib.hid (begin_mid (j := j) (y := 160) (CS := #[.iface y1 (.pointer (some ⟨b1, 0, none⟩)), .slice p2 0 n2, .slice p0 0 n0, .pointer none, .slice p1 0 n1, .pointer none, .string ByteArray.empty, .int .i64 0, .int .i64 0, .int .i64 0, .int .i64 0]) (TU := 162) hc)
  have HCL := Lib.hid (show (Tryf.prog.info? 162).map (·.size) = some 11 from by kernel_rfl)
  have HZ0 := Lib.hid (show w.heap.size < ((w.setCell ⟨c, j, none⟩ (.iface 160 (.pointer (some ⟨w.heap.size, 0, none⟩)))).alloc (.cells #[.iface y1 (.pointer (some ⟨b1, 0, none⟩)), .slice p2 0 n2, .slice p0 0 n0, .pointer none, .slice p1 0 n1, .pointer none, .string ByteArray.empty, .int .i64 0, .int .i64 0, .int .i64 0, .int .i64 0] 162)).heap.size from HM0.out.size)
  have HJ := Lib.hid (Array.getElem?_eq_some_iff.1 hj).1
  have A1 := Lib.hid a1; have IH1 := Lib.hid ih1
  clear hb hc hj a1 ih1
  go_enter Tryf.func39, Tryf.ntmps39
  go_wp2_with (first
    | (go_at_call 62; refine (base_any (based_parens _) HM1.out.row (off := 2) rfl rfl).mono ?_; rintro e w9 ⟨rfl, hr9, hg9⟩)
    | (go_at_call 39; refine (IH1.out _ _ y1 b1 w.heap.size 0 _ _ (HM0.out.ast A1.out nc1) (fun h => absurd h.2 (Nat.lt_irrefl _)) HM0.out.row rfl).mono ?_; rintro e w1 ⟨rfl, b1', hr, hg, ha⟩; have HM1 := Lib.hid (HM0.out.step hr hg); have HA1_1 := Lib.hid (cloned_sub ha); have HZ1 := Lib.hid (Nat.lt_of_lt_of_le HZ0.out hg.size); have HL1 := Lib.hid hg.size; have qc := HM1.out.at_ HJ.out; clear hr hg ha)
    | (refine wpList_store_mid rfl _ _ _ rfl w.heap.size 0 #[.iface y1 (.pointer (some ⟨b1, 0, none⟩)), .slice p2 0 n2, .slice p0 0 n0, .pointer none, .slice p1 0 n1, .pointer none, .string ByteArray.empty, .int .i64 0, .int .i64 0, .int .i64 0, .int .i64 0] rfl rfl HBC.out.2.1 HCL.out rfl ?_)
    | (refine wpList_load_mid rfl _ _ rfl b 0 rfl [.iface y1 (.pointer (some ⟨b1, 0, none⟩)), .slice p2 0 n2, .slice p0 0 n0, .pointer none, .slice p1 0 n1, .pointer none, .string ByteArray.empty, .int .i64 0, .int .i64 0, .int .i64 0, .int .i64 0] _ HBC.out.1 Tryf.underlying162 rfl HCL.out ?_))
  go_end0
  obtain ⟨g, n, hm9⟩ := HM1.out.last hr9 hg9
  have hrow := hm9.row
  have ha1 := sub_far HA1_1.out hg9 HZ0.out
  exact ⟨rfl, w.heap.size, hm9.cell, hm9.grown, .parens w.heap.size p0 g p2 n0 n n2 (.inl (Nat.le_refl _)) (sub_in HZ0.out s1) hrow ha1⟩
set_option maxRecDepth 100000 in
set_option maxHeartbeats 8000000 in
theorem clone_dot {w : World} {S : Nat → Prop} {S1 : Nat → Prop} {t1 : Tr} {y1 : TypeId} {b1 : Nat} (i : Nat) (tx : ByteArray) {b c j : Nat} {cs : Array Value} {T : TypeId} {p0 p1 p2 p3 : Option Addr} {n0 n1 n2 n3 : Nat} (hS : S b)
    (hi : S i) (_ : b ≠ i) (s1 : ∀ k, S1 k → S k ∧ k ≠ b ∧ k ≠ i) (hid : w.heap[i]? = some (.cells #[.string tx] 121)) (a1 : Ast w S1 t1 y1 b1) (ih1 : CloneOk t1)
    (hb : w.heap[b]? = some (.cells #[.iface y1 (.pointer (some ⟨b1, 0, none⟩)), .nilIface, .slice p2 0 n2, .slice p3 0 n3, .pointer (some ⟨i, 0, none⟩), .slice p0 0 n0, .pointer none, .slice p1 0 n1, .pointer none, .string ByteArray.empty, .int .i64 0, .int .i64 0, .int .i64 0, .int .i64 0] 120))
    (hSc : ¬ S c) (hc : w.heap[c]? = some (.cells cs T)) (hj : cs[j]? = some (.iface 117 (.pointer (some ⟨b, 0, none⟩)))) :
    Calls Tryf.prog 39 #[.pointer (some ⟨c, j, none⟩)] w fun e w' => Cloned w S c j cs T (.mk 16 tx 0 false [t1]) 117 e w' := by
  have hbc : b ≠ c := fun e => hSc (e ▸ hS)
  have q := cell_of hc hj
  have fz := fun i => unfrozen_of_block hc i
  have zc := heap_lt hc
  have zb := heap_lt hb
  have nc1 : ¬ S1 c := fun h => hSc (s1 c h).1
  have HBC := Lib.hid (begin_copy (j := j) (y := 117) hb hc hbc (zs := #[.nilIface, .nilIface, .slice none 0 0, .slice none 0 0, .pointer none, .slice none 0 0, .pointer none, .slice none 0 0, .pointer none, .string ⟨#[]⟩, .int .i64 0, .int .i64 0, .int .i64 0, .int .i64 0]) rfl)
  have HM0 := Lib.hid (begin_mid (j := j) (y := 117) (CS := #[.iface y1 (.pointer (some ⟨b1, 0, none⟩)), .nilIface, .slice p2 0 n2, .slice p3 0 n3, .pointer (some ⟨i, 0, none⟩), .slice p0 0 n0, .pointer none, .slice p1 0 n1, .pointer none, .string ByteArray.empty, .int .i64 0, .int .i64 0, .int .i64 0, .int .i64 0]) (TU := 120) hc)
  have HCL := Lib.hid (show (Tryf.prog.info? 120).map (·.size) = some 14 from by kernel_rfl)
  have HZ0 := Lib.hid (show w.heap.size < ((w.setCell ⟨c, j, none⟩ (.iface 117 (.pointer (some ⟨w.heap.size, 0, none⟩)))).alloc (.cells #[.iface y1 (.pointer (some ⟨b1, 0, none⟩)), .nilIface, .slice p2 0 n2, .slice p3 0 n3, .pointer (some ⟨i, 0, none⟩), .slice p0 0 n0, .pointer none, .slice p1 0 n1, .pointer none, .string ByteArray.empty, .int .i64 0, .int .i64 0, .int .i64 0, .int .i64 0] 120)).heap.size from HM0.out.size)
  have HJ := Lib.hid (Array.getElem?_eq_some_iff.1 hj).1
  have A1 := Lib.hid a1; have IH1 := Lib.hid ih1
  clear hb hc hj a1 ih1
  go_enter Tryf.func39, Tryf.ntmps39
  go_wp2_with (first
    | (go_at_call 62; refine (base_any (based_index _) HM2.out.row (off := 5) rfl rfl).mono ?_; rintro e w9 ⟨rfl, hr9, hg9⟩)
    | (go_at_call 39; refine (clone_nil HM1.out.row (j := 1) rfl).mono ?_; rintro e w2 ⟨rfl, rfl⟩; have HM2 := Lib.hid HM1.out; have HA1_2 := Lib.hid HA1_1.out; have HZ2 := Lib.hid HZ1.out)
    | (go_at_call 39; refine (IH1.out _ _ y1 b1 w.heap.size 0 _ _ (HM0.out.ast A1.out nc1) (fun h => absurd h.2 (Nat.lt_irrefl _)) HM0.out.row rfl).mono ?_; rintro e w1 ⟨rfl, b1', hr, hg, ha⟩; have HM1 := Lib.hid (HM0.out.step hr hg); have HA1_1 := Lib.hid (cloned_sub ha); have HZ1 := Lib.hid (Nat.lt_of_lt_of_le HZ0.out hg.size); have HL1 := Lib.hid hg.size; have qc := HM1.out.at_ HJ.out; clear hr hg ha)
    | (refine wpList_store_mid rfl _ _ _ rfl w.heap.size 0 #[.iface y1 (.pointer (some ⟨b1, 0, none⟩)), .nilIface, .slice p2 0 n2, .slice p3 0 n3, .pointer (some ⟨i, 0, none⟩), .slice p0 0 n0, .pointer none, .slice p1 0 n1, .pointer none, .string ByteArray.empty, .int .i64 0, .int .i64 0, .int .i64 0, .int .i64 0] rfl rfl HBC.out.2.1 HCL.out rfl ?_)
    | (refine wpList_load_mid rfl _ _ rfl b 0 rfl [.iface y1 (.pointer (some ⟨b1, 0, none⟩)), .nilIface, .slice p2 0 n2, .slice p3 0 n3, .pointer (some ⟨i, 0, none⟩), .slice p0 0 n0, .pointer none, .slice p1 0 n1, .pointer none, .string ByteArray.empty, .int .i64 0, .int .i64 0, .int .i64 0, .int .i64 0] _ HBC.out.1 Tryf.underlying120 rfl HCL.out ?_))
  go_end0
  obtain ⟨g, n, hm9⟩ := HM2.out.last hr9 hg9
  have hrow := hm9.row
  have ha1 := sub_far HA1_2.out hg9 HZ0.out
  exact ⟨rfl, w.heap.size, hm9.cell, hm9.grown, .dot w.heap.size i tx p0 g p2 p3 n0 n n2 n3 (.inl (Nat.le_refl _)) (.inr ⟨hi, heap_lt hid⟩) (Nat.ne_of_gt (heap_lt hid)) (sub_in3 HZ0.out (heap_lt hid) s1) hrow ((hm9.grown.block i (heap_lt hid) (fun e => hSc (by injection e with e; exact e ▸ hi))).trans hid) ha1⟩
end Go.Proofs.YtceepfnjdkfjnaaFmt
