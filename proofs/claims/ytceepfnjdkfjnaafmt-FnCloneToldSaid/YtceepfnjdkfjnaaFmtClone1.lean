/-
  ast.clone, by kinds: leaves. Conditions: none.
-/
import Derived.Test.YtceepfnjdkfjnaaFmtCloneDef
import Derived.Test.YtceepfnjdkfjnaaFmtCloneReg
namespace Go.Proofs.YtceepfnjdkfjnaaFmt
open Go.ChangeShapes Go.WideShapes Go.ChangeAt Go.RowKit Go.Joins
attribute [local go_sem] ta_Apply ta_ApplyBrace ta_Array ta_ArrayComp ta_Assert ta_Binary ta_Conditional ta_DesugaredObject ta_Dollar ta_Error ta_Function ta_Import ta_ImportBin ta_ImportStr ta_InSuper ta_Index ta_LiteralBoolean ta_LiteralNull ta_LiteralNumber ta_LiteralString ta_Local ta_Object ta_ObjectComp ta_Parens ta_Self ta_Slice ta_SuperIndex ta_Unary ta_Var
set_option maxRecDepth 100000 in
set_option maxHeartbeats 8000000 in
theorem clone_null {w : World} {S : Nat → Prop} {b c j : Nat} {cs : Array Value} {T : TypeId} {p0 p1 : Option Addr} {n0 n1 : Nat} (hS : S b)
    (hb : w.heap[b]? = some (.cells #[.slice p0 0 n0, .pointer none, .slice p1 0 n1, .pointer none, .string ByteArray.empty, .int .i64 0, .int .i64 0, .int .i64 0, .int .i64 0] 238))
    (hSc : ¬ S c) (hc : w.heap[c]? = some (.cells cs T)) (hj : cs[j]? = some (.iface 194 (.pointer (some ⟨b, 0, none⟩)))) :
    Calls Tryf.prog 39 #[.pointer (some ⟨c, j, none⟩)] w fun e w' => Cloned w S c j cs T (.mk 1 ByteArray.empty 0 false []) 194 e w' := by
  have hbc : b ≠ c := fun e => hSc (e ▸ hS)
  have q := cell_of hc hj
  have fz := fun i => unfrozen_of_block hc i
  have zc := heap_lt hc
  have zb := heap_lt hb
  have HBC := Lib.hid (begin_copy (j := j) (y := 194) hb hc hbc (zs := #[.slice none 0 0, .pointer none, .slice none 0 0, .pointer none, .string ⟨#[]⟩, .int .i64 0, .int .i64 0, .int .i64 0, .int .i64 0]) rfl)
  have HM0 := Lib.hid (begin_mid (j := j) (y := 194) (CS := #[.slice p0 0 n0, .pointer none, .slice p1 0 n1, .pointer none, .string ByteArray.empty, .int .i64 0, .int .i64 0, .int .i64 0, .int .i64 0]) (TU := 238) hc)
  have HCL := Lib.hid (show (Tryf.prog.info? 238).map (·.size) = some 9 from by kernel_rfl)
  have HZ0 := Lib.hid (show w.heap.size < ((w.setCell ⟨c, j, none⟩ (.iface 194 (.pointer (some ⟨w.heap.size, 0, none⟩)))).alloc (.cells #[.slice p0 0 n0, .pointer none, .slice p1 0 n1, .pointer none, .string ByteArray.empty, .int .i64 0, .int .i64 0, .int .i64 0, .int .i64 0] 238)).heap.size from HM0.out.size)
  have HJ := Lib.hid (Array.getElem?_eq_some_iff.1 hj).1
  clear hb hc hj
  go_enter Tryf.func39, Tryf.ntmps39
  go_wp2_with (first
    | (go_at_call 62; refine (base_any (based_null _) HM0.out.row (off := 0) rfl rfl).mono ?_; rintro e w9 ⟨rfl, hr9, hg9⟩)
    | (refine wpList_store_mid rfl _ _ _ rfl w.heap.size 0 #[.slice p0 0 n0, .pointer none, .slice p1 0 n1, .pointer none, .string ByteArray.empty, .int .i64 0, .int .i64 0, .int .i64 0, .int .i64 0] rfl rfl HBC.out.2.1 HCL.out rfl ?_)
    | (refine wpList_load_mid rfl _ _ rfl b 0 rfl [.slice p0 0 n0, .pointer none, .slice p1 0 n1, .pointer none, .string ByteArray.empty, .int .i64 0, .int .i64 0, .int .i64 0, .int .i64 0] _ HBC.out.1 Tryf.underlying238 rfl HCL.out ?_))
  go_end0
  obtain ⟨g, n, hm9⟩ := HM0.out.last hr9 hg9
  have hrow := hm9.row
  exact ⟨rfl, w.heap.size, hm9.cell, hm9.grown, .null w.heap.size p0 g n0 n (.inl (Nat.le_refl _)) hrow⟩
set_option maxRecDepth 100000 in
set_option maxHeartbeats 8000000 in
theorem clone_boolean {w : World} {S : Nat → Prop} (fl : Bool) {b c j : Nat} {cs : Array Value} {T : TypeId} {p0 p1 : Option Addr} {n0 n1 : Nat} (hS : S b)
    (hb : w.heap[b]? = some (.cells #[.slice p0 0 n0, .pointer none, .slice p1 0 n1, .pointer none, .string ByteArray.empty, .int .i64 0, .int .i64 0, .int .i64 0, .int .i64 0, .bool fl] 197))
    (hSc : ¬ S c) (hc : w.heap[c]? = some (.cells cs T)) (hj : cs[j]? = some (.iface 195 (.pointer (some ⟨b, 0, none⟩)))) :
    Calls Tryf.prog 39 #[.pointer (some ⟨c, j, none⟩)] w fun e w' => Cloned w S c j cs T (.mk 2 ByteArray.empty 0 fl []) 195 e w' := by
  have hbc : b ≠ c := fun e => hSc (e ▸ hS)
  have q := cell_of hc hj
  have fz := fun i => unfrozen_of_block hc i
  have zc := heap_lt hc
  have zb := heap_lt hb
  have HBC := Lib.hid (begin_copy (j := j) (y := 195) hb hc hbc (zs := #[.slice none 0 0, .pointer none, .slice none 0 0, .pointer none, .string ⟨#[]⟩, .int .i64 0, .int .i64 0, .int .i64 0, .int .i64 0, .bool false]) rfl)
  have HM0 := Lib.hid (begin_mid (j := j) (y := 195) (CS := #[.slice p0 0 n0, .pointer none, .slice p1 0 n1, .pointer none, .string ByteArray.empty, .int .i64 0, .int .i64 0, .int .i64 0, .int .i64 0, .bool fl]) (TU := 197) hc)
  have HCL := Lib.hid (show (Tryf.prog.info? 197).map (·.size) = some 10 from by kernel_rfl)
  have HZ0 := Lib.hid (show w.heap.size < ((w.setCell ⟨c, j, none⟩ (.iface 195 (.pointer (some ⟨w.heap.size, 0, none⟩)))).alloc (.cells #[.slice p0 0 n0, .pointer none, .slice p1 0 n1, .pointer none, .string ByteArray.empty, .int .i64 0, .int .i64 0, .int .i64 0, .int .i64 0, .bool fl] 197)).heap.size from HM0.out.size)
  have HJ := Lib.hid (Array.getElem?_eq_some_iff.1 hj).1
  clear hb hc hj
  go_enter Tryf.func39, Tryf.ntmps39
  go_wp2_with (first
    | (go_at_call 62; refine (base_any (based_boolean _) HM0.out.row (off := 0) rfl rfl).mono ?_; rintro e w9 ⟨rfl, hr9, hg9⟩)
    | (refine wpList_store_mid rfl _ _ _ rfl w.heap.size 0 #[.slice p0 0 n0, .pointer none, .slice p1 0 n1, .pointer none, .string ByteArray.empty, .int .i64 0, .int .i64 0, .int .i64 0, .int .i64 0, .bool fl] rfl rfl HBC.out.2.1 HCL.out rfl ?_)
    | (refine wpList_load_mid rfl _ _ rfl b 0 rfl [.slice p0 0 n0, .pointer none, .slice p1 0 n1, .pointer none, .string ByteArray.empty, .int .i64 0, .int .i64 0, .int .i64 0, .int .i64 0, .bool fl] _ HBC.out.1 Tryf.underlying197 rfl HCL.out ?_))
  go_end0
  obtain ⟨g, n, hm9⟩ := HM0.out.last hr9 hg9
  have hrow := hm9.row
  exact ⟨rfl, w.heap.size, hm9.cell, hm9.grown, .boolean w.heap.size fl p0 g n0 n (.inl (Nat.le_refl _)) hrow⟩
set_option maxRecDepth 100000 in
set_option maxHeartbeats 8000000 in
theorem clone_number {w : World} {S : Nat → Prop} (tx : ByteArray) {b c j : Nat} {cs : Array Value} {T : TypeId} {p0 p1 : Option Addr} {n0 n1 : Nat} (hS : S b)
    (hb : w.heap[b]? = some (.cells #[.string tx, .slice p0 0 n0, .pointer none, .slice p1 0 n1, .pointer none, .string ByteArray.empty, .int .i64 0, .int .i64 0, .int .i64 0, .int .i64 0] 200))
    (hSc : ¬ S c) (hc : w.heap[c]? = some (.cells cs T)) (hj : cs[j]? = some (.iface 198 (.pointer (some ⟨b, 0, none⟩)))) :
    Calls Tryf.prog 39 #[.pointer (some ⟨c, j, none⟩)] w fun e w' => Cloned w S c j cs T (.mk 3 tx 0 false []) 198 e w' := by
  have hbc : b ≠ c := fun e => hSc (e ▸ hS)
  have q := cell_of hc hj
  have fz := fun i => unfrozen_of_block hc i
  have zc := heap_lt hc
  have zb := heap_lt hb
  have HBC := Lib.hid (begin_copy (j := j) (y := 198) hb hc hbc (zs := #[.string ⟨#[]⟩, .slice none 0 0, .pointer none, .slice none 0 0, .pointer none, .string ⟨#[]⟩, .int .i64 0, .int .i64 0, .int .i64 0, .int .i64 0]) rfl)
  have HM0 := Lib.hid (begin_mid (j := j) (y := 198) (CS := #[.string tx, .slice p0 0 n0, .pointer none, .slice p1 0 n1, .pointer none, .string ByteArray.empty, .int .i64 0, .int .i64 0, .int .i64 0, .int .i64 0]) (TU := 200) hc)
  have HCL := Lib.hid (show (Tryf.prog.info? 200).map (·.size) = some 10 from by kernel_rfl)
  have HZ0 := Lib.hid (show w.heap.size < ((w.setCell ⟨c, j, none⟩ (.iface 198 (.pointer (some ⟨w.heap.size, 0, none⟩)))).alloc (.cells #[.string tx, .slice p0 0 n0, .pointer none, .slice p1 0 n1, .pointer none, .string ByteArray.empty, .int .i64 0, .int .i64 0, .int .i64 0, .int .i64 0] 200)).heap.size from HM0.out.size)
  have HJ := Lib.hid (Array.getElem?_eq_some_iff.1 hj).1
  clear hb hc hj
  go_enter Tryf.func39, Tryf.ntmps39
  go_wp2_with (first
    | (go_at_call 62; refine (base_any (based_number _) HM0.out.row (off := 1) rfl rfl).mono ?_; rintro e w9 ⟨rfl, hr9, hg9⟩)
    | (refine wpList_store_mid rfl _ _ _ rfl w.heap.size 0 #[.string tx, .slice p0 0 n0, .pointer none, .slice p1 0 n1, .pointer none, .string ByteArray.empty, .int .i64 0, .int .i64 0, .int .i64 0, .int .i64 0] rfl rfl HBC.out.2.1 HCL.out rfl ?_)
    | (refine wpList_load_mid rfl _ _ rfl b 0 rfl [.string tx, .slice p0 0 n0, .pointer none, .slice p1 0 n1, .pointer none, .string ByteArray.empty, .int .i64 0, .int .i64 0, .int .i64 0, .int .i64 0] _ HBC.out.1 Tryf.underlying200 rfl HCL.out ?_))
  go_end0
  obtain ⟨g, n, hm9⟩ := HM0.out.last hr9 hg9
  have hrow := hm9.row
  exact ⟨rfl, w.heap.size, hm9.cell, hm9.grown, .number w.heap.size tx p0 g n0 n (.inl (Nat.le_refl _)) hrow⟩
set_option maxRecDepth 100000 in
set_option maxHeartbeats 8000000 in
theorem clone_str {w : World} {S : Nat → Prop} (tx : ByteArray) (op : Int) {b c j : Nat} {cs : Array Value} {T : TypeId} {p0 p1 : Option Addr} {n0 n1 : Nat} (hS : S b)
    (hb : w.heap[b]? = some (.cells #[.string tx, .string ByteArray.empty, .string ByteArray.empty, .slice p0 0 n0, .pointer none, .slice p1 0 n1, .pointer none, .string ByteArray.empty, .int .i64 0, .int .i64 0, .int .i64 0, .int .i64 0, .int .i64 op] 70))
    (hSc : ¬ S c) (hc : w.heap[c]? = some (.cells cs T)) (hj : cs[j]? = some (.iface 54 (.pointer (some ⟨b, 0, none⟩)))) :
    Calls Tryf.prog 39 #[.pointer (some ⟨c, j, none⟩)] w fun e w' => Cloned w S c j cs T (.mk 4 tx op false []) 54 e w' := by
  have hbc : b ≠ c := fun e => hSc (e ▸ hS)
  have q := cell_of hc hj
  have fz := fun i => unfrozen_of_block hc i
  have zc := heap_lt hc
  have zb := heap_lt hb
  have HBC := Lib.hid (begin_copy (j := j) (y := 54) hb hc hbc (zs := #[.string ⟨#[]⟩, .string ⟨#[]⟩, .string ⟨#[]⟩, .slice none 0 0, .pointer none, .slice none 0 0, .pointer none, .string ⟨#[]⟩, .int .i64 0, .int .i64 0, .int .i64 0, .int .i64 0, .int .i64 0]) rfl)
  have HM0 := Lib.hid (begin_mid (j := j) (y := 54) (CS := #[.string tx, .string ByteArray.empty, .string ByteArray.empty, .slice p0 0 n0, .pointer none, .slice p1 0 n1, .pointer none, .string ByteArray.empty, .int .i64 0, .int .i64 0, .int .i64 0, .int .i64 0, .int .i64 op]) (TU := 70) hc)
  have HCL := Lib.hid (show (Tryf.prog.info? 70).map (·.size) = some 13 from by kernel_rfl)
  have HZ0 := Lib.hid (show w.heap.size < ((w.setCell ⟨c, j, none⟩ (.iface 54 (.pointer (some ⟨w.heap.size, 0, none⟩)))).alloc (.cells #[.string tx, .string ByteArray.empty, .string ByteArray.empty, .slice p0 0 n0, .pointer none, .slice p1 0 n1, .pointer none, .string ByteArray.empty, .int .i64 0, .int .i64 0, .int .i64 0, .int .i64 0, .int .i64 op] 70)).heap.size from HM0.out.size)
  have HJ := Lib.hid (Array.getElem?_eq_some_iff.1 hj).1
  clear hb hc hj
  go_enter Tryf.func39, Tryf.ntmps39
  go_wp2_with (first
    | (go_at_call 62; refine (base_any (based_str _) HM0.out.row (off := 3) rfl rfl).mono ?_; rintro e w9 ⟨rfl, hr9, hg9⟩)
    | (refine wpList_store_mid rfl _ _ _ rfl w.heap.size 0 #[.string tx, .string ByteArray.empty, .string ByteArray.empty, .slice p0 0 n0, .pointer none, .slice p1 0 n1, .pointer none, .string ByteArray.empty, .int .i64 0, .int .i64 0, .int .i64 0, .int .i64 0, .int .i64 op] rfl rfl HBC.out.2.1 HCL.out rfl ?_)
    | (refine wpList_load_mid rfl _ _ rfl b 0 rfl [.string tx, .string ByteArray.empty, .string ByteArray.empty, .slice p0 0 n0, .pointer none, .slice p1 0 n1, .pointer none, .string ByteArray.empty, .int .i64 0, .int .i64 0, .int .i64 0, .int .i64 0, .int .i64 op] _ HBC.out.1 Tryf.underlying70 rfl HCL.out ?_))
  go_end0
  obtain ⟨g, n, hm9⟩ := HM0.out.last hr9 hg9
  have hrow := hm9.row
  exact ⟨rfl, w.heap.size, hm9.cell, hm9.grown, .str w.heap.size tx op p0 g n0 n (.inl (Nat.le_refl _)) hrow⟩
set_option maxRecDepth 100000 in
set_option maxHeartbeats 8000000 in
theorem clone_self {w : World} {S : Nat → Prop} {b c j : Nat} {cs : Array Value} {T : TypeId} {p0 p1 : Option Addr} {n0 n1 : Nat} (hS : S b)
    (hb : w.heap[b]? = some (.cells #[.slice p0 0 n0, .pointer none, .slice p1 0 n1, .pointer none, .string ByteArray.empty, .int .i64 0, .int .i64 0, .int .i64 0, .int .i64 0] 252))
    (hSc : ¬ S c) (hc : w.heap[c]? = some (.cells cs T)) (hj : cs[j]? = some (.iface 201 (.pointer (some ⟨b, 0, none⟩)))) :
    Calls Tryf.prog 39 #[.pointer (some ⟨c, j, none⟩)] w fun e w' => Cloned w S c j cs T (.mk 5 ByteArray.empty 0 false []) 201 e w' := by
  have hbc : b ≠ c := fun e => hSc (e ▸ hS)
  have q := cell_of hc hj
  have fz := fun i => unfrozen_of_block hc i
  have zc := heap_lt hc
  have zb := heap_lt hb
  have HBC := Lib.hid (begin_copy (j := j) (y := 201) hb hc hbc (zs := #[.slice none 0 0, .pointer none, .slice none 0 0, .pointer none, .string ⟨#[]⟩, .int .i64 0, .int .i64 0, .int .i64 0, .int .i64 0]) rfl)
  have HM0 := Lib.hid (begin_mid (j := j) (y := 201) (CS := #[.slice p0 0 n0, .pointer none, .slice p1 0 n1, .pointer none, .string ByteArray.empty, .int .i64 0, .int .i64 0, .int .i64 0, .int .i64 0]) (TU := 252) hc)
  have HCL := Lib.hid (show (Tryf.prog.info? 252).map (·.size) = some 9 from by kernel_rfl)
  have HZ0 := Lib.hid (show w.heap.size < ((w.setCell ⟨c, j, none⟩ (.iface 201 (.pointer (some ⟨w.heap.size, 0, none⟩)))).alloc (.cells #[.slice p0 0 n0, .pointer none, .slice p1 0 n1, .pointer none, .string ByteArray.empty, .int .i64 0, .int .i64 0, .int .i64 0, .int .i64 0] 252)).heap.size from HM0.out.size)
  have HJ := Lib.hid (Array.getElem?_eq_some_iff.1 hj).1
  clear hb hc hj
  go_enter Tryf.func39, Tryf.ntmps39
  go_wp2_with (first
    | (go_at_call 62; refine (base_any (based_self _) HM0.out.row (off := 0) rfl rfl).mono ?_; rintro e w9 ⟨rfl, hr9, hg9⟩)
    | (refine wpList_store_mid rfl _ _ _ rfl w.heap.size 0 #[.slice p0 0 n0, .pointer none, .slice p1 0 n1, .pointer none, .string ByteArray.empty, .int .i64 0, .int .i64 0, .int .i64 0, .int .i64 0] rfl rfl HBC.out.2.1 HCL.out rfl ?_)
    | (refine wpList_load_mid rfl _ _ rfl b 0 rfl [.slice p0 0 n0, .pointer none, .slice p1 0 n1, .pointer none, .string ByteArray.empty, .int .i64 0, .int .i64 0, .int .i64 0, .int .i64 0] _ HBC.out.1 Tryf.underlying252 rfl HCL.out ?_))
  go_end0
  obtain ⟨g, n, hm9⟩ := HM0.out.last hr9 hg9
  have hrow := hm9.row
  exact ⟨rfl, w.heap.size, hm9.cell, hm9.grown, .self w.heap.size p0 g n0 n (.inl (Nat.le_refl _)) hrow⟩
set_option maxRecDepth 100000 in
set_option maxHeartbeats 8000000 in
theorem clone_dollar {w : World} {S : Nat → Prop} {b c j : Nat} {cs : Array Value} {T : TypeId} {p0 p1 : Option Addr} {n0 n1 : Nat} (hS : S b)
    (hb : w.heap[b]? = some (.cells #[.slice p0 0 n0, .pointer none, .slice p1 0 n1, .pointer none, .string ByteArray.empty, .int .i64 0, .int .i64 0, .int .i64 0, .int .i64 0] 237))
    (hSc : ¬ S c) (hc : w.heap[c]? = some (.cells cs T)) (hj : cs[j]? = some (.iface 202 (.pointer (some ⟨b, 0, none⟩)))) :
    Calls Tryf.prog 39 #[.pointer (some ⟨c, j, none⟩)] w fun e w' => Cloned w S c j cs T (.mk 6 ByteArray.empty 0 false []) 202 e w' := by
  have hbc : b ≠ c := fun e => hSc (e ▸ hS)
  have q := cell_of hc hj
  have fz := fun i => unfrozen_of_block hc i
  have zc := heap_lt hc
  have zb := heap_lt hb
  have HBC := Lib.hid (begin_copy (j := j) (y := 202) hb hc hbc (zs := #[.slice none 0 0, .pointer none, .slice none 0 0, .pointer none, .string ⟨#[]⟩, .int .i64 0, .int .i64 0, .int .i64 0, .int .i64 0]) rfl)
  have HM0 := Lib.hid (begin_mid (j := j) (y := 202) (CS := #[.slice p0 0 n0, .pointer none, .slice p1 0 n1, .pointer none, .string ByteArray.empty, .int .i64 0, .int .i64 0, .int .i64 0, .int .i64 0]) (TU := 237) hc)
  have HCL := Lib.hid (show (Tryf.prog.info? 237).map (·.size) = some 9 from by kernel_rfl)
  have HZ0 := Lib.hid (show w.heap.size < ((w.setCell ⟨c, j, none⟩ (.iface 202 (.pointer (some ⟨w.heap.size, 0, none⟩)))).alloc (.cells #[.slice p0 0 n0, .pointer none, .slice p1 0 n1, .pointer none, .string ByteArray.empty, .int .i64 0, .int .i64 0, .int .i64 0, .int .i64 0] 237)).heap.size from HM0.out.size)
  have HJ := Lib.hid (Array.getElem?_eq_some_iff.1 hj).1
  clear hb hc hj
  go_enter Tryf.func39, Tryf.ntmps39
  go_wp2_with (first
    | (go_at_call 62; refine (base_any (based_dollar _) HM0.out.row (off := 0) rfl rfl).mono ?_; rintro e w9 ⟨rfl, hr9, hg9⟩)
    | (refine wpList_store_mid rfl _ _ _ rfl w.heap.size 0 #[.slice p0 0 n0, .pointer none, .slice p1 0 n1, .pointer none, .string ByteArray.empty, .int .i64 0, .int .i64 0, .int .i64 0, .int .i64 0] rfl rfl HBC.out.2.1 HCL.out rfl ?_)
    | (refine wpList_load_mid rfl _ _ rfl b 0 rfl [.slice p0 0 n0, .pointer none, .slice p1 0 n1, .pointer none, .string ByteArray.empty, .int .i64 0, .int .i64 0, .int .i64 0, .int .i64 0] _ HBC.out.1 Tryf.underlying237 rfl HCL.out ?_))
  go_end0
  obtain ⟨g, n, hm9⟩ := HM0.out.last hr9 hg9
  have hrow := hm9.row
  exact ⟨rfl, w.heap.size, hm9.cell, hm9.grown, .dollar w.heap.size p0 g n0 n (.inl (Nat.le_refl _)) hrow⟩
set_option maxRecDepth 100000 in
set_option maxHeartbeats 8000000 in
theorem clone_var {w : World} {S : Nat → Prop} (tx : ByteArray) {b c j : Nat} {cs : Array Value} {T : TypeId} {p0 p1 : Option Addr} {n0 n1 : Nat} (hS : S b)
    (hb : w.heap[b]? = some (.cells #[.string tx, .slice p0 0 n0, .pointer none, .slice p1 0 n1, .pointer none, .string ByteArray.empty, .int .i64 0, .int .i64 0, .int .i64 0, .int .i64 0] 205))
    (hSc : ¬ S c) (hc : w.heap[c]? = some (.cells cs T)) (hj : cs[j]? = some (.iface 203 (.pointer (some ⟨b, 0, none⟩)))) :
    Calls Tryf.prog 39 #[.pointer (some ⟨c, j, none⟩)] w fun e w' => Cloned w S c j cs T (.mk 7 tx 0 false []) 203 e w' := by
  have hbc : b ≠ c := fun e => hSc (e ▸ hS)
  have q := cell_of hc hj
  have fz := fun i => unfrozen_of_block hc i
  have zc := heap_lt hc
  have zb := heap_lt hb
  have HBC := Lib.hid (begin_copy (j := j) (y := 203) hb hc hbc (zs := #[.string ⟨#[]⟩, .slice none 0 0, .pointer none, .slice none 0 0, .pointer none, .string ⟨#[]⟩, .int .i64 0, .int .i64 0, .int .i64 0, .int .i64 0]) rfl)
  have HM0 := Lib.hid (begin_mid (j := j) (y := 203) (CS := #[.string tx, .slice p0 0 n0, .pointer none, .slice p1 0 n1, .pointer none, .string ByteArray.empty, .int .i64 0, .int .i64 0, .int .i64 0, .int .i64 0]) (TU := 205) hc)
  have HCL := Lib.hid (show (Tryf.prog.info? 205).map (·.size) = some 10 from by kernel_rfl)
  have HZ0 := Lib.hid (show w.heap.size < ((w.setCell ⟨c, j, none⟩ (.iface 203 (.pointer (some ⟨w.heap.size, 0, none⟩)))).alloc (.cells #[.string tx, .slice p0 0 n0, .pointer none, .slice p1 0 n1, .pointer none, .string ByteArray.empty, .int .i64 0, .int .i64 0, .int .i64 0, .int .i64 0] 205)).heap.size from HM0.out.size)
  have HJ := Lib.hid (Array.getElem?_eq_some_iff.1 hj).1
  clear hb hc hj
  go_enter Tryf.func39, Tryf.ntmps39
  go_wp2_with (first
    | (go_at_call 62; refine (base_any (based_var _) HM0.out.row (off := 1) rfl rfl).mono ?_; rintro e w9 ⟨rfl, hr9, hg9⟩)
    | (refine wpList_store_mid rfl _ _ _ rfl w.heap.size 0 #[.string tx, .slice p0 0 n0, .pointer none, .slice p1 0 n1, .pointer none, .string ByteArray.empty, .int .i64 0, .int .i64 0, .int .i64 0, .int .i64 0] rfl rfl HBC.out.2.1 HCL.out rfl ?_)
    | (refine wpList_load_mid rfl _ _ rfl b 0 rfl [.string tx, .slice p0 0 n0, .pointer none, .slice p1 0 n1, .pointer none, .string ByteArray.empty, .int .i64 0, .int .i64 0, .int .i64 0, .int .i64 0] _ HBC.out.1 Tryf.underlying205 rfl HCL.out ?_))
  go_end0
  obtain ⟨g, n, hm9⟩ := HM0.out.last hr9 hg9
  have hrow := hm9.row
  exact ⟨rfl, w.heap.size, hm9.cell, hm9.grown, .var w.heap.size tx p0 g n0 n (.inl (Nat.le_refl _)) hrow⟩
end Go.Proofs.YtceepfnjdkfjnaaFmt
