/-
  (*PrettyFieldNames).ObjectField. Conditions: what the base's ObjectField does.
-/
import Derived.Test.YtlgajopaokjjaaaGreatFmtBase
import Derived.Test.YtlgajopaokjjaaaGreatFmtIdent2
namespace Go.Proofs.YtlgajopaokjjaaaGreatFmt
open Go.ChangeShapes Go.WideShapes Go.ChangeAt Go.RowKit Go.Joins
attribute [local go_sem] ta_LiteralString
set_option maxRecDepth 100000 in
set_option maxHeartbeats 800000 in
theorem pretty_fldId {cb g o : Nat} {w : World} (q15 : w.cell? ⟨g, o + 15, none⟩ = some (.int .i64 1)) (hp : PassAt 39 cb w) {Q : Ending → World → Prop} (base : Calls Tryz.prog 109 #[.pointer (some ⟨cb, 0, none⟩), .iface 35 (.pointer (some ⟨cb, 0, none⟩)), .pointer (some ⟨g, o, none⟩), .nilIface] w fun e w' => e = .returned (.tuple #[]) ∧ Q e w') :
    Calls Tryz.prog 104 #[.pointer (some ⟨cb, 0, none⟩), .iface 35 (.pointer (some ⟨cb, 0, none⟩)), .pointer (some ⟨g, o, none⟩), .nilIface] w fun e w' => e = .returned (.tuple #[]) ∧ Q e w' := by
  have B := Lib.hid base
  have pz := partAt_zero (P := Tryz.prog) hp (by kernel_rfl)
  clear base hp
  go_enter Tryz.func104, Tryz.ntmps104
  go_wp2_with fail
  refine B.out.mono ?_
  rintro e w1 ⟨rfl, hq⟩
  have HQ := Lib.hid hq
  clear hq
  go_wp2
  go_end0
  exact ⟨rfl, HQ.out⟩
set_option maxRecDepth 100000 in
set_option maxHeartbeats 800000 in
theorem pretty_fldNo {cb g o b1 : Nat} {tx : ByteArray} {w : World} (q15 : w.cell? ⟨g, o + 15, none⟩ = some (.int .i64 3)) (q6 : w.cell? ⟨g, o + 6, none⟩ = some (.iface 162 (.pointer (some ⟨b1, 0, none⟩)))) (q2 : w.cell? ⟨b1, 0, none⟩ = some (.string tx)) (hn : nameB tx.data.toList = false) (hp : PassAt 39 cb w) {Q : Ending → World → Prop} (base : ∀ w1, Below w.heap.size w w1 → Calls Tryz.prog 109 #[.pointer (some ⟨cb, 0, none⟩), .iface 35 (.pointer (some ⟨cb, 0, none⟩)), .pointer (some ⟨g, o, none⟩), .nilIface] w1 fun e w' => e = .returned (.tuple #[]) ∧ Q e w') :
    Calls Tryz.prog 104 #[.pointer (some ⟨cb, 0, none⟩), .iface 35 (.pointer (some ⟨cb, 0, none⟩)), .pointer (some ⟨g, o, none⟩), .nilIface] w fun e w' => e = .returned (.tuple #[]) ∧ Q e w' := by
  have B := Lib.hid base; have HP := Lib.hid hp
  clear base hp
  go_enter Tryz.func104, Tryz.ntmps104
  go_wp2_with fail
  go_at_call 107
  refine (valid_any tx w).mono ?_
  rintro e w1 ⟨he, hb1⟩
  rw [hn] at he
  subst he
  have pz := partAt_zero (P := Tryz.prog) ((hb1.block cb (heap_lt HP.out)).trans HP.out) (by kernel_rfl)
  have BB := Lib.hid (B.out w1 hb1)
  clear hb1
  go_wp2_with fail
  refine BB.out.mono ?_
  rintro e w2 ⟨rfl, hq⟩
  have HQ := Lib.hid hq
  clear hq
  go_wp2
  go_end0
  exact ⟨rfl, HQ.out⟩
set_option maxRecDepth 100000 in
set_option maxHeartbeats 1000000 in
theorem pretty_fldYes {cb g o b1 nl nk : Nat} {pl pk : Option Addr} {pi : Option Addr} {cur : Array Value} {T : TypeId} {tx : ByteArray} {w : World} (hp : PassAt 39 cb w) (hcb : ¬ cb = g) (hbb : ¬ g = b1) (hg : w.heap[g]? = some (.cells cur T)) (x1 : cur[o + 1]? = some (.pointer pi)) (x3 : cur[o + 3]? = some (.slice pk 0 nk)) (x6 : cur[o + 6]? = some (.iface 162 (.pointer (some ⟨b1, 0, none⟩)))) (x15 : cur[o + 15]? = some (.int .i64 3))
    (q2 : w.cell? ⟨b1, 0, none⟩ = some (.string tx)) (q3 : w.cell? ⟨b1, 3, none⟩ = some (.slice pl 0 nl)) (hn : nameB tx.data.toList = true)
    {Q : Ending → World → Prop} (base : ∀ w2 i, w.heap.size ≤ i → w2.heap[g]? = some (.cells ((((cur.setIfInBounds (o + 15) (.int .i64 1)).setIfInBounds (o + 1) (.pointer (some ⟨i, 0, none⟩))).setIfInBounds (o + 3) (.slice pl 0 nl)).setIfInBounds (o + 6) .nilIface) T) → w2.heap[i]? = some (.cells #[.string tx] 92) → Within w w2 (fun k => k = g) → Calls Tryz.prog 109 #[.pointer (some ⟨cb, 0, none⟩), .iface 35 (.pointer (some ⟨cb, 0, none⟩)), .pointer (some ⟨g, o, none⟩), .nilIface] w2 fun e w' => e = .returned (.tuple #[]) ∧ Q e w') :
    Calls Tryz.prog 104 #[.pointer (some ⟨cb, 0, none⟩), .iface 35 (.pointer (some ⟨cb, 0, none⟩)), .pointer (some ⟨g, o, none⟩), .nilIface] w fun e w' => e = .returned (.tuple #[]) ∧ Q e w' := by
  have B := Lib.hid base; have HP := Lib.hid hp
  have hbb' : ¬ b1 = g := fun e => hbb e.symm
  have c15 := cell_of hg x15
  have c6 := cell_of hg x6
  have zg := heap_lt hg
  have zb2 : b1 < w.heap.size := World.block_lt_of_cell? w _ q2
  have HG := Lib.hid hg
  clear base hp hg
  go_enter Tryz.func104, Tryz.ntmps104
  go_wp2_with fail
  go_at_call 107
  refine (valid_any tx w).mono ?_
  rintro e w1 ⟨he, hb1⟩
  rw [hn] at he
  subst he
  have hgw := (hb1.block g zg).trans HG.out
  have e1 := cell_of hgw x1
  have e3 := cell_of hgw x3
  have e6 := cell_of hgw x6
  have e15 := cell_of hgw x15
  have fz := fun i => unfrozen_of_block hgw i
  have d0 := (World.cell?_of_block (w := w) (hb1.block b1 zb2)).trans q2
  have d3 := (World.cell?_of_block (w := w) (hb1.block b1 zb2)).trans q3
  have zg1 := heap_lt hgw
  have zb3 : b1 < w1.heap.size := World.block_lt_of_cell? w1 _ d0
  have HGW := Lib.hid hgw
  have HB1 := Lib.hid hb1
  clear q2 q3 c15 c6 x1 x3 x6 x15 hgw hb1
  have hp1 := (HB1.out.block cb (heap_lt HP.out)).trans HP.out
  have hp2 : PassAt 39 cb (((((w1.setCell ⟨g, o + 15, none⟩ (.int .i64 1)).setCell ⟨g, o + 1, none⟩ (.pointer (some ⟨w1.heap.size, 0, none⟩))).setCell ⟨g, o + 3, none⟩ (.slice pl 0 nl)).setCell ⟨g, o + 6, none⟩ .nilIface).alloc (.cells #[.string tx] 92)) := bk_alloc (bk_set hcb (bk_set hcb (bk_set hcb (bk_set hcb hp1))))
  have pz := partAt_zero (P := Tryz.prog) hp2 (by kernel_rfl)
  have h2 := set_same (i := o + 6) (v := .nilIface) (set_same (i := o + 3) (v := .slice pl 0 nl) (set_same (i := o + 1) (v := .pointer (some ⟨w1.heap.size, 0, none⟩)) (set_same (i := o + 15) (v := .int .i64 1) HGW.out)))
  have hi := heap_alloc_new ((((w1.setCell ⟨g, o + 15, none⟩ (.int .i64 1)).setCell ⟨g, o + 1, none⟩ (.pointer (some ⟨w1.heap.size, 0, none⟩))).setCell ⟨g, o + 3, none⟩ (.slice pl 0 nl)).setCell ⟨g, o + 6, none⟩ .nilIface) (.cells #[.string tx] 92)
  rw [show (((((w1.setCell ⟨g, o + 15, none⟩ (.int .i64 1)).setCell ⟨g, o + 1, none⟩ (.pointer (some ⟨w1.heap.size, 0, none⟩))).setCell ⟨g, o + 3, none⟩ (.slice pl 0 nl)).setCell ⟨g, o + 6, none⟩ .nilIface)).heap.size = w1.heap.size from by simp [World.setCell]] at hi
  have BB := Lib.hid (B.out _ w1.heap.size HB1.out.size (bk_alloc h2) hi ((((((Within.of_below HB1.out (fun k => k = g)).trans (Within.set (S := fun k => k = g) _ rfl) (fun _ h _ => h)).trans (Within.set (S := fun k => k = g) _ rfl) (fun _ h _ => h)).trans (Within.set (S := fun k => k = g) _ rfl) (fun _ h _ => h)).trans (Within.set (S := fun k => k = g) _ rfl) (fun _ h _ => h)).trans (Within.of_below (below_alloc1 _ _) (fun k => k = g)) (fun _ h _ => h)))
  clear hp1 hp2 h2 hi
  go_wp2_with fail
  refine BB.out.mono ?_
  rintro e w3 ⟨rfl, hq⟩
  have HQ := Lib.hid hq
  clear hq
  go_wp2
  go_end0
  exact ⟨rfl, HQ.out⟩
end Go.Proofs.YtlgajopaokjjaaaGreatFmt
