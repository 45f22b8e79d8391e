/-
  (*RemovePlusObject).Visit at a plus between a name or an index and an object. Conditions: what the base's Visit does.
-/
import Derived.Test.YthhcfkkmbjaeeaaFmtBase
namespace Go.Proofs.YthhcfkkmbjaeeaaFmt
open Go.ChangeShapes Go.WideShapes Go.ChangeAt Go.RowKit Go.Joins
attribute [local go_sem] ta_Binary ta_Var ta_Index ta_Object
set_option maxRecDepth 100000 in
set_option maxHeartbeats 1000000 in
theorem drop_plus {cb c j b b1 b2 : Nat} {y1 : TypeId} (hy : y1 = 174 ∨ y1 = 91) {p0 p1 p2 po : Option Addr} {n0 n1 n2 no : Nat} {cs CO : Array Value} {T TO : TypeId} {w : World} (hp : PassAt 40 cb w) (hcb : ¬ cb = b) (hcc : ¬ cb = c) (hbc : ¬ b = c) (hob : ¬ b2 = b)
    (hc : w.heap[c]? = some (.cells cs T)) (hj : cs[j]? = some (.iface 72 (.pointer (some ⟨b, 0, none⟩)))) (hb : w.heap[b]? = some (.cells #[.iface 131 (.pointer (some ⟨b2, 0, none⟩)), .iface y1 (.pointer (some ⟨b1, 0, none⟩)), .slice p2 0 n2, .slice p0 0 n0, .pointer none, .slice p1 0 n1, .pointer none, .string ByteArray.empty, .int .i64 0, .int .i64 0, .int .i64 0, .int .i64 0, .int .i64 3] 75)) (ho : w.heap[b2]? = some (.cells CO TO)) (ho2 : CO[2]? = some (.slice po 0 no))
    {Q : Ending → World → Prop} (base : ∀ w2 nb, w.heap.size ≤ nb → w2.heap[nb]? = some (.cells #[.iface y1 (.pointer (some ⟨b1, 0, none⟩)), .iface 131 (.pointer (some ⟨b2, 0, none⟩)), .slice p0 0 n0, .pointer none, .slice p1 0 n1, .pointer none, .string ByteArray.empty, .int .i64 0, .int .i64 0, .int .i64 0, .int .i64 0] 90) → w2.heap[c]? = some (.cells (cs.setIfInBounds j (.iface 88 (.pointer (some ⟨nb, 0, none⟩)))) T) → Within w w2 (fun k => k = b ∨ k = c) →
      Calls Tryf.prog 65 #[.pointer (some ⟨cb, 0, none⟩), .iface 36 (.pointer (some ⟨cb, 0, none⟩)), .pointer (some ⟨c, j, none⟩), .nilIface] w2 fun e w' => e = .returned (.tuple #[]) ∧ Q e w') :
    Calls Tryf.prog 63 #[.pointer (some ⟨cb, 0, none⟩), .iface 36 (.pointer (some ⟨cb, 0, none⟩)), .pointer (some ⟨c, j, none⟩), .nilIface] w fun e w' => e = .returned (.tuple #[]) ∧ Q e w' := by
  have B := Lib.hid base; have HP := Lib.hid hp
  have q := cell_of hc hj
  have q0 := cell_of (j := 0) hb rfl; have q1 := cell_of (j := 1) hb rfl; have q12 := cell_of (j := 12) hb rfl
  have MV := Lib.hid (moveFront_empty (w := w.drew) ho ho2 hb (j := 2) rfl hob)
  have HC := Lib.hid hc; have HB := Lib.hid hb
  have zc := heap_lt hc
  have zb := heap_lt hb
  clear base hp hc hj hb ho ho2
  rcases hy with rfl | rfl
  · go_enter Tryf.func63, Tryf.ntmps63
    go_wp2_with fail
    go_region_with (first | (go_at_call 64; refine MV.out.mono ?_; rintro e w1 ⟨rfl, g, k, hr1, hg1⟩) | fail)
    have hg1 := hg1.undrew
    have x1 := cell_of (j := 1) hr1 rfl
    have x3 := cell_of (j := 3) hr1 rfl; have x4 := cell_of (j := 4) hr1 rfl; have x5 := cell_of (j := 5) hr1 rfl; have x6 := cell_of (j := 6) hr1 rfl; have x7 := cell_of (j := 7) hr1 rfl
    have x8 := cell_of (j := 8) hr1 rfl; have x9 := cell_of (j := 9) hr1 rfl; have x10 := cell_of (j := 10) hr1 rfl; have x11 := cell_of (j := 11) hr1 rfl
    have hc1 := (hg1.block c zc (fun e => hbc e.symm)).trans HC.out
    have fz := fun i => unfrozen_of_block hc1 i
    have zc1 := heap_lt hc1
    have q' : w1.cell? ⟨c, j, none⟩ = some (.iface 72 (.pointer (some ⟨b, 0, none⟩))) := (World.cell?_of_block (w := w) (hg1.block c zc (fun e => hbc e.symm))).trans q
    clear q q0 q1 q12
    go_wp2_with fail
    go_region_with fail
    all_goals
      have hp2 : PassAt 40 cb (((w1.setCell ⟨c, j, none⟩ (.iface 88 (.pointer (some ⟨w1.heap.size, 0, none⟩)))).alloc (.cells #[.iface 174 (.pointer (some ⟨b1, 0, none⟩)), .iface 131 (.pointer (some ⟨b2, 0, none⟩)), .slice p0 0 n0, .pointer none, .slice p1 0 n1, .pointer none, .string ByteArray.empty, .int .i64 0, .int .i64 0, .int .i64 0, .int .i64 0] 90)).drew) := bk_drew (bk_alloc (bk_set hcc ((hg1.block cb (heap_lt HP.out) hcb).trans HP.out)))
      have pz := partAt_zero (P := Tryf.prog) hp2 (by kernel_rfl)
      have h2 := heap_alloc_new (w1.setCell ⟨c, j, none⟩ (.iface 88 (.pointer (some ⟨w1.heap.size, 0, none⟩)))) (.cells #[.iface 174 (.pointer (some ⟨b1, 0, none⟩)), .iface 131 (.pointer (some ⟨b2, 0, none⟩)), .slice p0 0 n0, .pointer none, .slice p1 0 n1, .pointer none, .string ByteArray.empty, .int .i64 0, .int .i64 0, .int .i64 0, .int .i64 0] 90)
      rw [show (w1.setCell ⟨c, j, none⟩ (.iface 88 (.pointer (some ⟨w1.heap.size, 0, none⟩)))).heap.size = w1.heap.size from by simp [World.setCell]] at h2
      have BB := Lib.hid (B.out _ w1.heap.size hg1.size (bk_drew h2) (bk_drew (bk_alloc (set_same hc1))) (((hg1.mono (T := fun k => k = b ∨ k = c) (fun k hk _ => .inl hk)).trans (Within.set (S := fun k => k = b ∨ k = c) _ (.inr rfl)) (fun _ h _ => h)).trans (Within.of_below (below_alloc1 _ _) (fun k => k = b ∨ k = c)) (fun _ h _ => h)).drew)
      clear hp2 h2 x1 x3 x4 x5 x6 x7 x8 x9 x10 x11 q' fz
      go_wp2_with fail
      refine BB.out.mono ?_
      rintro e w3 ⟨rfl, hq⟩
      have HQ := Lib.hid hq
      clear hq
      go_wp2
      go_end0
      exact ⟨rfl, HQ.out⟩
  · go_enter Tryf.func63, Tryf.ntmps63
    go_wp2_with fail
    go_region_with (first | (go_at_call 64; refine MV.out.mono ?_; rintro e w1 ⟨rfl, g, k, hr1, hg1⟩) | fail)
    have hg1 := hg1.undrew
    have x1 := cell_of (j := 1) hr1 rfl
    have x3 := cell_of (j := 3) hr1 rfl; have x4 := cell_of (j := 4) hr1 rfl; have x5 := cell_of (j := 5) hr1 rfl; have x6 := cell_of (j := 6) hr1 rfl; have x7 := cell_of (j := 7) hr1 rfl
    have x8 := cell_of (j := 8) hr1 rfl; have x9 := cell_of (j := 9) hr1 rfl; have x10 := cell_of (j := 10) hr1 rfl; have x11 := cell_of (j := 11) hr1 rfl
    have hc1 := (hg1.block c zc (fun e => hbc e.symm)).trans HC.out
    have fz := fun i => unfrozen_of_block hc1 i
    have zc1 := heap_lt hc1
    have q' : w1.cell? ⟨c, j, none⟩ = some (.iface 72 (.pointer (some ⟨b, 0, none⟩))) := (World.cell?_of_block (w := w) (hg1.block c zc (fun e => hbc e.symm))).trans q
    clear q q0 q1 q12
    go_wp2_with fail
    go_region_with fail
    all_goals
      have hp2 : PassAt 40 cb (((w1.setCell ⟨c, j, none⟩ (.iface 88 (.pointer (some ⟨w1.heap.size, 0, none⟩)))).alloc (.cells #[.iface 91 (.pointer (some ⟨b1, 0, none⟩)), .iface 131 (.pointer (some ⟨b2, 0, none⟩)), .slice p0 0 n0, .pointer none, .slice p1 0 n1, .pointer none, .string ByteArray.empty, .int .i64 0, .int .i64 0, .int .i64 0, .int .i64 0] 90)).drew) := bk_drew (bk_alloc (bk_set hcc ((hg1.block cb (heap_lt HP.out) hcb).trans HP.out)))
      have pz := partAt_zero (P := Tryf.prog) hp2 (by kernel_rfl)
      have h2 := heap_alloc_new (w1.setCell ⟨c, j, none⟩ (.iface 88 (.pointer (some ⟨w1.heap.size, 0, none⟩)))) (.cells #[.iface 91 (.pointer (some ⟨b1, 0, none⟩)), .iface 131 (.pointer (some ⟨b2, 0, none⟩)), .slice p0 0 n0, .pointer none, .slice p1 0 n1, .pointer none, .string ByteArray.empty, .int .i64 0, .int .i64 0, .int .i64 0, .int .i64 0] 90)
      rw [show (w1.setCell ⟨c, j, none⟩ (.iface 88 (.pointer (some ⟨w1.heap.size, 0, none⟩)))).heap.size = w1.heap.size from by simp [World.setCell]] at h2
      have BB := Lib.hid (B.out _ w1.heap.size hg1.size (bk_drew h2) (bk_drew (bk_alloc (set_same hc1))) (((hg1.mono (T := fun k => k = b ∨ k = c) (fun k hk _ => .inl hk)).trans (Within.set (S := fun k => k = b ∨ k = c) _ (.inr rfl)) (fun _ h _ => h)).trans (Within.of_below (below_alloc1 _ _) (fun k => k = b ∨ k = c)) (fun _ h _ => h)).drew)
      clear hp2 h2 x1 x3 x4 x5 x6 x7 x8 x9 x10 x11 q' fz
      go_wp2_with fail
      refine BB.out.mono ?_
      rintro e w3 ⟨rfl, hq⟩
      have HQ := Lib.hid hq
      clear hq
      go_wp2
      go_end0
      exact ⟨rfl, HQ.out⟩
end Go.Proofs.YthhcfkkmbjaeeaaFmt
