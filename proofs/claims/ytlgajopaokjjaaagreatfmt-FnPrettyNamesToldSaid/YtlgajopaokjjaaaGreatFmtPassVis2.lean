/-
  (*pass.Base).Visit, by the types of nodes. Conditions: what the pass's method of the type does.
-/
import Derived.Test.YtlgajopaokjjaaaGreatFmtBase
namespace Go.Proofs.YtlgajopaokjjaaaGreatFmt
open Go.ChangeShapes Go.WideShapes Go.ChangeAt Go.RowKit Go.Joins
attribute [local go_sem] ta_Apply ta_ApplyBrace ta_Array ta_ArrayComp ta_Assert ta_Binary ta_Conditional ta_Dollar ta_Error ta_Function ta_Import ta_ImportBin ta_ImportStr ta_InSuper ta_Index ta_LiteralBoolean ta_LiteralNull ta_LiteralNumber ta_LiteralString ta_Local ta_Object ta_ObjectComp ta_Parens ta_Self ta_Slice ta_SuperIndex ta_Unary ta_Var
set_option maxRecDepth 100000 in
set_option maxHeartbeats 1000000 in
theorem visit_Dollar {fV : FuncId} {yp TP : TypeId} {cb : Nat} (P : PassVisits fV yp TP cb) {fM : FuncId} (hM : ∀ w, PassAt TP cb w → (method 388 yp (.pointer (some ⟨cb, 0, none⟩)) "Dollar").run Tryz.prog w = .ok (fM, .pointer (some ⟨cb, 0, none⟩)) w) (hE : ∀ args w, (callFunc fM args).run Tryz.prog w = .ok (.enter fM args) w) (r : Value) {w : World} {b c j n : Nat} (hbc : ¬ b = c) (hp : PassAt TP cb w) (hpb : ¬ cb = b) {p : Option Addr} {cs CS : Array Value} {T TU : TypeId} (hc : w.heap[c]? = some (.cells cs T)) (hj : cs[j]? = some (.iface 168 (.pointer (some ⟨b, 0, none⟩)))) (hb : w.heap[b]? = some (.cells CS TU)) (ho : CS[0]? = some (.slice p 0 n))
    {Q : World → World → Prop} (call : ∀ w1, Below w.heap.size w w1 → Calls Tryz.prog fM #[.pointer (some ⟨cb, 0, none⟩), .iface yp (.pointer (some ⟨cb, 0, none⟩)), .pointer (some ⟨b, 0, none⟩), .nilIface] w1 fun e w' => e = .returned (.tuple #[]) ∧ Q w1 w') :
    Calls Tryz.prog 59 #[r, .iface yp (.pointer (some ⟨cb, 0, none⟩)), .pointer (some ⟨c, j, none⟩), .nilIface] w fun e w' => e = .returned (.tuple #[]) ∧ ∃ w1, Below w.heap.size w w1 ∧ Q w1 w' := by
  have m2 := P.fodder (w.alloc (.cells #[.slice p 0 n] 44)) (bk_alloc hp); have m3 := of_Dollar b; have m5 := hE
  have m4 := hM ((w.setCell ⟨b, 0, none⟩ (.slice p 0 n)).alloc (.cells #[.slice p 0 n] 44)).drew (bk_drew (bk_alloc (bk_set hpb hp)))
  have q := cell_of hc hj
  have q1 := cell_of hb ho
  have fz := fun i => unfrozen_of_block hb i
  have zc := heap_lt hc
  have hcb : ¬ c = b := fun e => hbc e.symm
  have zb := heap_lt hb
  have CALL := Lib.hid call
  have HC := Lib.hid hc; have HB := Lib.hid hb; have HO := Lib.hid ho
  clear hc hj hb ho P hM hE call hp
  go_enter Tryz.func59, Tryz.ntmps59
  go_wp2_with fail
  refine (openFodder_any w).mono ?_
  rintro e w9 ⟨rfl, rfl⟩
  go_wp2_with fail
  refine (fodder_any _ _ (w := w.alloc (.cells #[.slice p 0 n] 44)) (cell_of (heap_alloc_new w _) rfl)).mono ?_
  rintro e w9 ⟨rfl, rfl⟩
  go_wp2_with fail
  go_region_with (first | (refine (openFodder_any _).mono ?_; rintro e w9 ⟨rfl, rfl⟩) | fail)
  all_goals
    have HBL := Lib.hid (refod HB.out HO.out (.cells #[.slice p 0 n] 44))
    go_wp2_with fail
    refine (CALL.out _ HBL.out).mono ?_
    rintro e w2 ⟨rfl, hq⟩
    have HQ := Lib.hid hq
    clear hq
    go_wp2
    go_end0
    exact ⟨rfl, _, HBL.out, HQ.out⟩
set_option maxRecDepth 100000 in
set_option maxHeartbeats 1000000 in
theorem visit_Var {fV : FuncId} {yp TP : TypeId} {cb : Nat} (P : PassVisits fV yp TP cb) {fM : FuncId} (hM : ∀ w, PassAt TP cb w → (method 388 yp (.pointer (some ⟨cb, 0, none⟩)) "Var").run Tryz.prog w = .ok (fM, .pointer (some ⟨cb, 0, none⟩)) w) (hE : ∀ args w, (callFunc fM args).run Tryz.prog w = .ok (.enter fM args) w) (r : Value) {w : World} {b c j n : Nat} (hbc : ¬ b = c) (hp : PassAt TP cb w) (hpb : ¬ cb = b) {p : Option Addr} {cs CS : Array Value} {T TU : TypeId} (hc : w.heap[c]? = some (.cells cs T)) (hj : cs[j]? = some (.iface 170 (.pointer (some ⟨b, 0, none⟩)))) (hb : w.heap[b]? = some (.cells CS TU)) (ho : CS[1]? = some (.slice p 0 n))
    {Q : World → World → Prop} (call : ∀ w1, Below w.heap.size w w1 → Calls Tryz.prog fM #[.pointer (some ⟨cb, 0, none⟩), .iface yp (.pointer (some ⟨cb, 0, none⟩)), .pointer (some ⟨b, 0, none⟩), .nilIface] w1 fun e w' => e = .returned (.tuple #[]) ∧ Q w1 w') :
    Calls Tryz.prog 59 #[r, .iface yp (.pointer (some ⟨cb, 0, none⟩)), .pointer (some ⟨c, j, none⟩), .nilIface] w fun e w' => e = .returned (.tuple #[]) ∧ ∃ w1, Below w.heap.size w w1 ∧ Q w1 w' := by
  have m2 := P.fodder (w.alloc (.cells #[.slice p 0 n] 44)) (bk_alloc hp); have m3 := of_Var b; have m5 := hE
  have m4 := hM ((w.setCell ⟨b, 1, none⟩ (.slice p 0 n)).alloc (.cells #[.slice p 0 n] 44)).drew (bk_drew (bk_alloc (bk_set hpb hp)))
  have q := cell_of hc hj
  have q1 := cell_of hb ho
  have fz := fun i => unfrozen_of_block hb i
  have zc := heap_lt hc
  have hcb : ¬ c = b := fun e => hbc e.symm
  have zb := heap_lt hb
  have CALL := Lib.hid call
  have HC := Lib.hid hc; have HB := Lib.hid hb; have HO := Lib.hid ho
  clear hc hj hb ho P hM hE call hp
  go_enter Tryz.func59, Tryz.ntmps59
  go_wp2_with fail
  refine (openFodder_any w).mono ?_
  rintro e w9 ⟨rfl, rfl⟩
  go_wp2_with fail
  refine (fodder_any _ _ (w := w.alloc (.cells #[.slice p 0 n] 44)) (cell_of (heap_alloc_new w _) rfl)).mono ?_
  rintro e w9 ⟨rfl, rfl⟩
  go_wp2_with fail
  go_region_with (first | (refine (openFodder_any _).mono ?_; rintro e w9 ⟨rfl, rfl⟩) | fail)
  all_goals
    have HBL := Lib.hid (refod HB.out HO.out (.cells #[.slice p 0 n] 44))
    go_wp2_with fail
    refine (CALL.out _ HBL.out).mono ?_
    rintro e w2 ⟨rfl, hq⟩
    have HQ := Lib.hid hq
    clear hq
    go_wp2
    go_end0
    exact ⟨rfl, _, HBL.out, HQ.out⟩
set_option maxRecDepth 100000 in
set_option maxHeartbeats 1000000 in
theorem visit_Unary {fV : FuncId} {yp TP : TypeId} {cb : Nat} (P : PassVisits fV yp TP cb) {fM : FuncId} (hM : ∀ w, PassAt TP cb w → (method 388 yp (.pointer (some ⟨cb, 0, none⟩)) "Unary").run Tryz.prog w = .ok (fM, .pointer (some ⟨cb, 0, none⟩)) w) (hE : ∀ args w, (callFunc fM args).run Tryz.prog w = .ok (.enter fM args) w) (r : Value) {w : World} {b c j n : Nat} (hbc : ¬ b = c) (hp : PassAt TP cb w) (hpb : ¬ cb = b) {p : Option Addr} {cs CS : Array Value} {T TU : TypeId} (hc : w.heap[c]? = some (.cells cs T)) (hj : cs[j]? = some (.iface 53 (.pointer (some ⟨b, 0, none⟩)))) (hb : w.heap[b]? = some (.cells CS TU)) (ho : CS[1]? = some (.slice p 0 n))
    {Q : World → World → Prop} (call : ∀ w1, Below w.heap.size w w1 → Calls Tryz.prog fM #[.pointer (some ⟨cb, 0, none⟩), .iface yp (.pointer (some ⟨cb, 0, none⟩)), .pointer (some ⟨b, 0, none⟩), .nilIface] w1 fun e w' => e = .returned (.tuple #[]) ∧ Q w1 w') :
    Calls Tryz.prog 59 #[r, .iface yp (.pointer (some ⟨cb, 0, none⟩)), .pointer (some ⟨c, j, none⟩), .nilIface] w fun e w' => e = .returned (.tuple #[]) ∧ ∃ w1, Below w.heap.size w w1 ∧ Q w1 w' := by
  have m2 := P.fodder (w.alloc (.cells #[.slice p 0 n] 44)) (bk_alloc hp); have m3 := of_Unary b; have m5 := hE
  have m4 := hM ((w.setCell ⟨b, 1, none⟩ (.slice p 0 n)).alloc (.cells #[.slice p 0 n] 44)).drew (bk_drew (bk_alloc (bk_set hpb hp)))
  have q := cell_of hc hj
  have q1 := cell_of hb ho
  have fz := fun i => unfrozen_of_block hb i
  have zc := heap_lt hc
  have hcb : ¬ c = b := fun e => hbc e.symm
  have zb := heap_lt hb
  have CALL := Lib.hid call
  have HC := Lib.hid hc; have HB := Lib.hid hb; have HO := Lib.hid ho
  clear hc hj hb ho P hM hE call hp
  go_enter Tryz.func59, Tryz.ntmps59
  go_wp2_with fail
  refine (openFodder_any w).mono ?_
  rintro e w9 ⟨rfl, rfl⟩
  go_wp2_with fail
  refine (fodder_any _ _ (w := w.alloc (.cells #[.slice p 0 n] 44)) (cell_of (heap_alloc_new w _) rfl)).mono ?_
  rintro e w9 ⟨rfl, rfl⟩
  go_wp2_with fail
  go_region_with (first | (refine (openFodder_any _).mono ?_; rintro e w9 ⟨rfl, rfl⟩) | fail)
  all_goals
    have HBL := Lib.hid (refod HB.out HO.out (.cells #[.slice p 0 n] 44))
    go_wp2_with fail
    refine (CALL.out _ HBL.out).mono ?_
    rintro e w2 ⟨rfl, hq⟩
    have HQ := Lib.hid hq
    clear hq
    go_wp2
    go_end0
    exact ⟨rfl, _, HBL.out, HQ.out⟩
set_option maxRecDepth 100000 in
set_option maxHeartbeats 1000000 in
theorem visit_Binary {fV : FuncId} {yp TP : TypeId} {cb : Nat} (P : PassVisits fV yp TP cb) {fM : FuncId} (hM : ∀ w, PassAt TP cb w → (method 388 yp (.pointer (some ⟨cb, 0, none⟩)) "Binary").run Tryz.prog w = .ok (fM, .pointer (some ⟨cb, 0, none⟩)) w) (hE : ∀ args w, (callFunc fM args).run Tryz.prog w = .ok (.enter fM args) w) (r : Value) {w : World} {b c j n : Nat} (hbc : ¬ b = c) (hp : PassAt TP cb w) (hpb : ¬ cb = b) {p : Option Addr} {cs CS : Array Value} {T TU : TypeId} (hc : w.heap[c]? = some (.cells cs T)) (hj : cs[j]? = some (.iface 69 (.pointer (some ⟨b, 0, none⟩)))) (hb : w.heap[b]? = some (.cells CS TU)) (ho : CS[3]? = some (.slice p 0 n))
    {Q : World → World → Prop} (call : ∀ w1, Below w.heap.size w w1 → Calls Tryz.prog fM #[.pointer (some ⟨cb, 0, none⟩), .iface yp (.pointer (some ⟨cb, 0, none⟩)), .pointer (some ⟨b, 0, none⟩), .nilIface] w1 fun e w' => e = .returned (.tuple #[]) ∧ Q w1 w') :
    Calls Tryz.prog 59 #[r, .iface yp (.pointer (some ⟨cb, 0, none⟩)), .pointer (some ⟨c, j, none⟩), .nilIface] w fun e w' => e = .returned (.tuple #[]) ∧ ∃ w1, Below w.heap.size w w1 ∧ Q w1 w' := by
  have m2 := P.fodder (w.alloc (.cells #[.slice p 0 n] 44)) (bk_alloc hp); have m3 := of_Binary b; have m5 := hE
  have m4 := hM ((w.setCell ⟨b, 3, none⟩ (.slice p 0 n)).alloc (.cells #[.slice p 0 n] 44)).drew (bk_drew (bk_alloc (bk_set hpb hp)))
  have q := cell_of hc hj
  have q1 := cell_of hb ho
  have fz := fun i => unfrozen_of_block hb i
  have zc := heap_lt hc
  have hcb : ¬ c = b := fun e => hbc e.symm
  have zb := heap_lt hb
  have CALL := Lib.hid call
  have HC := Lib.hid hc; have HB := Lib.hid hb; have HO := Lib.hid ho
  clear hc hj hb ho P hM hE call hp
  go_enter Tryz.func59, Tryz.ntmps59
  go_wp2_with fail
  refine (openFodder_any w).mono ?_
  rintro e w9 ⟨rfl, rfl⟩
  go_wp2_with fail
  refine (fodder_any _ _ (w := w.alloc (.cells #[.slice p 0 n] 44)) (cell_of (heap_alloc_new w _) rfl)).mono ?_
  rintro e w9 ⟨rfl, rfl⟩
  go_wp2_with fail
  go_region_with (first | (refine (openFodder_any _).mono ?_; rintro e w9 ⟨rfl, rfl⟩) | fail)
  all_goals
    have HBL := Lib.hid (refod HB.out HO.out (.cells #[.slice p 0 n] 44))
    go_wp2_with fail
    refine (CALL.out _ HBL.out).mono ?_
    rintro e w2 ⟨rfl, hq⟩
    have HQ := Lib.hid hq
    clear hq
    go_wp2
    go_end0
    exact ⟨rfl, _, HBL.out, HQ.out⟩
end Go.Proofs.YtlgajopaokjjaaaGreatFmt
