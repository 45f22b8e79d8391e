/-
  (*PrettyFieldNames).Index. Conditions: what the base's Index does.
-/
import Derived.Test.YtlgajopaokjjaaaGreatFmtBase
import Derived.Test.YtlgajopaokjjaaaGreatFmtIdent2
namespace Go.Proofs.YtlgajopaokjjaaaGreatFmt
open Go.ChangeShapes Go.WideShapes Go.ChangeAt Go.RowKit Go.Joins
attribute [local go_sem] ta_LiteralString
set_option maxRecDepth 100000 in
set_option maxHeartbeats 800000 in
theorem pretty_dot {cb b : Nat} {w : World} (q1 : w.cell? ⟨b, 1, none⟩ = some .nilIface) (hp : PassAt 39 cb w) {Q : Ending → World → Prop} (base : Calls Tryz.prog 82 #[.pointer (some ⟨cb, 0, none⟩), .iface 35 (.pointer (some ⟨cb, 0, none⟩)), .pointer (some ⟨b, 0, none⟩), .nilIface] w fun e w' => e = .returned (.tuple #[]) ∧ Q e w') :
    Calls Tryz.prog 103 #[.pointer (some ⟨cb, 0, none⟩), .iface 35 (.pointer (some ⟨cb, 0, none⟩)), .pointer (some ⟨b, 0, none⟩), .nilIface] w fun e w' => e = .returned (.tuple #[]) ∧ Q e w' := by
  have B := Lib.hid base
  have pz := partAt_zero (P := Tryz.prog) hp (by kernel_rfl)
  clear base hp
  go_enter Tryz.func103, Tryz.ntmps103
  go_wp2_with fail
  refine B.out.mono ?_
  rintro e w1 ⟨rfl, hq⟩
  have HQ := Lib.hid hq
  clear hq
  go_wp2
  go_end0
  exact ⟨rfl, HQ.out⟩
set_option maxRecDepth 100000 in
set_option maxHeartbeats 800000 in
theorem pretty_other {cb b b2 : Nat} {y2 : TypeId} {w : World} (q1 : w.cell? ⟨b, 1, none⟩ = some (.iface y2 (.pointer (some ⟨b2, 0, none⟩)))) (hy : ¬ y2 = 162) (hp : PassAt 39 cb w) {Q : Ending → World → Prop} (base : Calls Tryz.prog 82 #[.pointer (some ⟨cb, 0, none⟩), .iface 35 (.pointer (some ⟨cb, 0, none⟩)), .pointer (some ⟨b, 0, none⟩), .nilIface] w fun e w' => e = .returned (.tuple #[]) ∧ Q e w') :
    Calls Tryz.prog 103 #[.pointer (some ⟨cb, 0, none⟩), .iface 35 (.pointer (some ⟨cb, 0, none⟩)), .pointer (some ⟨b, 0, none⟩), .nilIface] w fun e w' => e = .returned (.tuple #[]) ∧ Q e w' := by
  have B := Lib.hid base
  have pz := partAt_zero (P := Tryz.prog) hp (by kernel_rfl)
  clear base hp
  go_enter Tryz.func103, Tryz.ntmps103
  go_wp2_with fail
  refine B.out.mono ?_
  rintro e w1 ⟨rfl, hq⟩
  have HQ := Lib.hid hq
  clear hq
  go_wp2
  go_end0
  exact ⟨rfl, HQ.out⟩
set_option maxRecDepth 100000 in
set_option maxHeartbeats 800000 in
theorem pretty_no {cb b b2 : Nat} {tx : ByteArray} {w : World} (q1 : w.cell? ⟨b, 1, none⟩ = some (.iface 162 (.pointer (some ⟨b2, 0, none⟩)))) (q2 : w.cell? ⟨b2, 0, none⟩ = some (.string tx)) (hn : nameB tx.data.toList = false) (hp : PassAt 39 cb w) {Q : Ending → World → Prop} (base : ∀ w1, Below w.heap.size w w1 → Calls Tryz.prog 82 #[.pointer (some ⟨cb, 0, none⟩), .iface 35 (.pointer (some ⟨cb, 0, none⟩)), .pointer (some ⟨b, 0, none⟩), .nilIface] w1 fun e w' => e = .returned (.tuple #[]) ∧ Q e w') :
    Calls Tryz.prog 103 #[.pointer (some ⟨cb, 0, none⟩), .iface 35 (.pointer (some ⟨cb, 0, none⟩)), .pointer (some ⟨b, 0, none⟩), .nilIface] w fun e w' => e = .returned (.tuple #[]) ∧ Q e w' := by
  have B := Lib.hid base; have HP := Lib.hid hp
  clear base hp
  go_enter Tryz.func103, Tryz.ntmps103
  go_wp2_with fail
  go_at_call 107
  refine (valid_any tx w).mono ?_
  rintro e w1 ⟨he, hb1⟩
  rw [hn] at he
  subst he
  have pz := partAt_zero (P := Tryz.prog) ((hb1.block cb (heap_lt HP.out)).trans HP.out) (by kernel_rfl)
  have BB := Lib.hid (B.out w1 hb1)
  clear hb1
  go_wp2_with fail
  refine BB.out.mono ?_
  rintro e w2 ⟨rfl, hq⟩
  have HQ := Lib.hid hq
  clear hq
  go_wp2
  go_end0
  exact ⟨rfl, HQ.out⟩
set_option maxRecDepth 100000 in
set_option maxHeartbeats 1000000 in
theorem pretty_yes {cb b b1 b2 nl : Nat} {y1 : TypeId} {pl p0 p1 p2 p3 : Option Addr} {n0 n1 n2 n3 : Nat} {tx : ByteArray} {w : World} (hp : PassAt 39 cb w) (hcb : ¬ cb = b) (hbb : ¬ b = b2)
    (hb : w.heap[b]? = some (.cells #[.iface y1 (.pointer (some ⟨b1, 0, none⟩)), .iface 162 (.pointer (some ⟨b2, 0, none⟩)), .slice p2 0 n2, .slice p3 0 n3, .pointer none, .slice p0 0 n0, .pointer none, .slice p1 0 n1, .pointer none, .string ByteArray.empty, .int .i64 0, .int .i64 0, .int .i64 0, .int .i64 0] 91)) (q2 : w.cell? ⟨b2, 0, none⟩ = some (.string tx)) (q3 : w.cell? ⟨b2, 3, none⟩ = some (.slice pl 0 nl)) (hn : nameB tx.data.toList = true)
    {Q : Ending → World → Prop} (base : ∀ w2 i, w.heap.size ≤ i → w2.heap[b]? = some (.cells #[.iface y1 (.pointer (some ⟨b1, 0, none⟩)), .nilIface, .slice pl 0 nl, .slice p3 0 n3, .pointer (some ⟨i, 0, none⟩), .slice p0 0 n0, .pointer none, .slice p1 0 n1, .pointer none, .string ByteArray.empty, .int .i64 0, .int .i64 0, .int .i64 0, .int .i64 0] 91) → w2.heap[i]? = some (.cells #[.string tx] 92) → Within w w2 (fun k => k = b) → Calls Tryz.prog 82 #[.pointer (some ⟨cb, 0, none⟩), .iface 35 (.pointer (some ⟨cb, 0, none⟩)), .pointer (some ⟨b, 0, none⟩), .nilIface] w2 fun e w' => e = .returned (.tuple #[]) ∧ Q e w') :
    Calls Tryz.prog 103 #[.pointer (some ⟨cb, 0, none⟩), .iface 35 (.pointer (some ⟨cb, 0, none⟩)), .pointer (some ⟨b, 0, none⟩), .nilIface] w fun e w' => e = .returned (.tuple #[]) ∧ Q e w' := by
  have B := Lib.hid base; have HP := Lib.hid hp
  have hbb' : ¬ b2 = b := fun e => hbb e.symm
  have q1 := cell_of (j := 1) hb rfl
  have zb := heap_lt hb
  have zb2 : b2 < w.heap.size := World.block_lt_of_cell? w _ q2
  have HB := Lib.hid hb
  clear base hp hb
  go_enter Tryz.func103, Tryz.ntmps103
  go_wp2_with fail
  go_at_call 107
  refine (valid_any tx w).mono ?_
  rintro e w1 ⟨he, hb1⟩
  rw [hn] at he
  subst he
  have hbw := (hb1.block b zb).trans HB.out
  have c1 := cell_of (j := 1) hbw rfl
  have c2 := cell_of (j := 2) hbw rfl
  have c4 := cell_of (j := 4) hbw rfl
  have fz := fun i => unfrozen_of_block hbw i
  have d0 := (World.cell?_of_block (w := w) (hb1.block b2 zb2)).trans q2
  have d3 := (World.cell?_of_block (w := w) (hb1.block b2 zb2)).trans q3
  have zb1 := heap_lt hbw
  have zb3 : b2 < w1.heap.size := World.block_lt_of_cell? w1 _ d0
  have HBW := Lib.hid hbw
  have HB1 := Lib.hid hb1
  clear q1 q2 q3 hbw hb1
  have hp1 := (HB1.out.block cb (heap_lt HP.out)).trans HP.out
  have hp2 : PassAt 39 cb ((((w1.setCell ⟨b, 1, none⟩ .nilIface).setCell ⟨b, 4, none⟩ (.pointer (some ⟨w1.heap.size, 0, none⟩))).setCell ⟨b, 2, none⟩ (.slice pl 0 nl)).alloc (.cells #[.string tx] 92)) := bk_alloc (bk_set hcb (bk_set hcb (bk_set hcb hp1)))
  have pz := partAt_zero (P := Tryz.prog) hp2 (by kernel_rfl)
  have h2 := set_same (i := 2) (v := .slice pl 0 nl) (set_same (i := 4) (v := .pointer (some ⟨w1.heap.size, 0, none⟩)) (set_same (i := 1) (v := .nilIface) HBW.out))
  have hi := heap_alloc_new (((w1.setCell ⟨b, 1, none⟩ .nilIface).setCell ⟨b, 4, none⟩ (.pointer (some ⟨w1.heap.size, 0, none⟩))).setCell ⟨b, 2, none⟩ (.slice pl 0 nl)) (.cells #[.string tx] 92)
  rw [show ((((w1.setCell ⟨b, 1, none⟩ .nilIface).setCell ⟨b, 4, none⟩ (.pointer (some ⟨w1.heap.size, 0, none⟩))).setCell ⟨b, 2, none⟩ (.slice pl 0 nl))).heap.size = w1.heap.size from by simp [World.setCell]] at hi
  have BB := Lib.hid (B.out _ w1.heap.size HB1.out.size (bk_alloc h2) hi (((((Within.of_below HB1.out (fun k => k = b)).trans (Within.set (S := fun k => k = b) _ rfl) (fun _ h _ => h)).trans (Within.set (S := fun k => k = b) _ rfl) (fun _ h _ => h)).trans (Within.set (S := fun k => k = b) _ rfl) (fun _ h _ => h)).trans (Within.of_below (below_alloc1 _ _) (fun k => k = b)) (fun _ h _ => h)))
  clear hp1 hp2 h2 hi
  go_wp2_with fail
  refine BB.out.mono ?_
  rintro e w3 ⟨rfl, hq⟩
  have HQ := Lib.hid hq
  clear hq
  go_wp2
  go_end0
  exact ⟨rfl, HQ.out⟩
end Go.Proofs.YtlgajopaokjjaaaGreatFmt
