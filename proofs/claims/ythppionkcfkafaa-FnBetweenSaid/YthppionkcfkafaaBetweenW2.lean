/-
  FnBetween's walk. No condition.
-/
import Derived.Test.YthppionkcfkafaaBetween
import Derived.Test.YthppionkcfkafaaSpecBef
import Derived.Deep.RegionHeldLaw
namespace Go.Proofs.Ythppionkcfkafaa
open Go.ChangeShapes Go.WideShapes Go.ChangeAt Go.RowKit Go.Joins

/-- A call of a Go function, as one step of a region that draws. -/
theorem step_call {P : Program} {ops : Array Oper} {o : Oper} {a : Act} {w : World} {K : Act → World → Prop} {Q : Exit → Act → World → Prop} {E : Prop} {f : FuncId} {args : Array Value} {R : Ending → World → Prop} (hg : o.guard = none)
    (hc : Calls P f args w R) (hv : (execOp a.eval o).run P w = .ok (.enter f args) w) (hR : ∀ e w', R e w' → ∃ v, e = .returned v ∧ K (a.put o.dst v) w') : if Region.wanted o (yielded ops a.tmps) = true then Oper.wp P o a w K Q else E := by
  have hw : Region.wanted o (yielded ops a.tmps) = true := by simp [Region.wanted, hg]
  rw [if_pos hw]
  unfold Oper.wp
  rw [hv, Oper.upon_enter]
  exact hc.mono fun e w' h => by
    obtain ⟨v, rfl, hk⟩ := hR e w' h
    exact hk

theorem cell_keep {W w : World} (hb : Below W.heap.size W w) {b o : Nat} {v : Value} (h : W.cell? ⟨b, o, none⟩ = some v) : w.cell? ⟨b, o, none⟩ = some v := ((bcell hb).1 b o (World.block_lt_of_cell? W _ h)).trans h
theorem frozen_keep {W w : World} (hb : Below W.heap.size W w) {b : Nat} (hlt : b < W.heap.size) (h : ∀ j, W.frozen? ⟨b, j, none⟩ = false) : ∀ j, w.frozen? ⟨b, j, none⟩ = false := fun j => ((bcell hb).2 b j hlt).trans (h j)
theorem cutin {T G : Prop} (h : T) (k : T → G) : G := k h
theorem cell_of {w : World} {b j : Nat} {cs : Array Value} {t : TypeId} {v : Value} (h : w.heap[b]? = some (.cells cs t)) (hv : cs[j]? = some v) : w.cell? ⟨b, j, none⟩ = some v := (cell_of_row _ _ j _ _ _ h).trans hv
theorem cutin' {T G : Prop} (h : T) (k : T → G) : G := k h
theorem pk_keep {W w : World} {g : Nat} {o : Obj} (hb : Below W.heap.size W w) (h : W.heap[g]? = some o) : w.heap[g]? = some o := (hb.block g (lt_of_block h)).trans h
theorem pk_alloc {W : World} {g : Nat} {o o' : Obj} (h : W.heap[g]? = some o) : (W.alloc o').heap[g]? = some o := (Below.heap_alloc W o' g (lt_of_block h)).trans h
theorem pk_drew {W : World} {g : Nat} {o : Obj} (h : W.heap[g]? = some o) : W.drew.heap[g]? = some o := h
theorem pk_new {W : World} {g : Nat} {o : Obj} (hg : g = W.heap.size) : (W.alloc o).heap[g]? = some o := by subst hg; exact heap_alloc_new W o
theorem pk_set {W : World} {g : Nat} {o : Obj} {p : Addr} {u : Value} (hn : g ≠ p.block) (h : W.heap[g]? = some o) : (W.setCell p u).heap[g]? = some o := (Below.heap_setCell _ _ _ _ hn).trans h
theorem pk_put {w : World} {g : Nat} {v0 v1 v2 v3 : Value} (h : w.heap[g]? = some (Obj.cells #[.int .i64 0, .int .i64 0, .int .i64 0, .int .i64 0] 28)) : ((((w.setCell ⟨g, 0, none⟩ v0).setCell ⟨g, 1, none⟩ v1).setCell ⟨g, 2, none⟩ v2).setCell ⟨g, 3, none⟩ v3).heap[g]? = some (.cells #[v0, v1, v2, v3] 28) := by
  simp [World.setCell, Array.getElem?_modify, h]
theorem stay_trans' {A B C : World} (h : Stay A B) (h' : Stay B C) : Stay A C := stay_of (h.1.trans (h'.1.mono h.1.size))
theorem specBefore_is (al ac bl bc : Int) (w : World) {x : Bool} (h : bfr al ac bl bc = x) :
    Calls Try.prog 6 #[.agg #[.int .i64 al, .int .i64 ac], .agg #[.int .i64 bl, .int .i64 bc]] w fun e w' => e = .returned (.bool x) ∧ Below w.heap.size w w' := by
  subst h; exact specBefore_any al ac bl bc w

set_option maxHeartbeats 40000000 in
set_option maxRecDepth 100000 in
theorem between_walk (a b c d p q r s : Int) (w : World) :
    Calls Try.prog 3 #[.agg #[.int .i64 a, .int .i64 b, .int .i64 c, .int .i64 d], .agg #[.int .i64 p, .int .i64 q, .int .i64 r, .int .i64 s]] w fun e w' => e = .returned (.bool true) ∧ Below w.heap.size w w' := by
  obtain ⟨w1, hw1⟩ : ∃ w1, w1 = ((w.alloc (Obj.cells #[Value.int IntKind.i64 a, Value.int IntKind.i64 b, Value.int IntKind.i64 c, Value.int IntKind.i64 d] 25)).alloc (Obj.cells #[Value.int IntKind.i64 p, Value.int IntKind.i64 q, Value.int IntKind.i64 r, Value.int IntKind.i64 s] 25)) := ⟨_, rfl⟩
  have hP : w1.heap[w.heap.size]? = some (.cells #[.int .i64 a, .int .i64 b, .int .i64 c, .int .i64 d] 25) := by subst hw1; exact pk_alloc (pk_new rfl)
  have hQ : w1.heap[w.heap.size + 1]? = some (.cells #[.int .i64 p, .int .i64 q, .int .i64 r, .int .i64 s] 25) := by subst hw1; exact pk_new (by simp)
  have hW1 := Lib.hid (show Below w.heap.size w w1 from by subst hw1; exact below_alloc2 _ _ _)
  have HW := Lib.hid hw1
  have p0 := cell_of (j := 0) hP rfl
  have q0 := cell_of (j := 0) hQ rfl
  have p1 := cell_of (j := 1) hP rfl
  have q1 := cell_of (j := 1) hQ rfl
  have p2 := cell_of (j := 2) hP rfl
  have q2 := cell_of (j := 2) hQ rfl
  have p3 := cell_of (j := 3) hP rfl
  have q3 := cell_of (j := 3) hQ rfl
  have zP := lt_of_block hP
  have zQ := lt_of_block hQ
  have QQ := Lib.hid (And.intro p0 (And.intro p1 (And.intro p2 (And.intro p3 (And.intro q0 (And.intro q1 (And.intro q2 q3)))))))
  have HPQ := Lib.hid (And.intro hP hQ)
  clear hP hQ
  go_enter Try.func3, Try.ntmps3
  go_upto_region 1 with fail
  rw [← HW.out]
  clear hw1
  go_cut [5, 6] (fun x y wx => ∃ g h : Nat, x = .pointer (some ⟨g, 0, none⟩) ∧ y = .pointer (some ⟨h, 0, none⟩) ∧ Stay w1 wx ∧ wx.heap[g]? = some (.cells #[.int .i64 a, .int .i64 b, .int .i64 c, .int .i64 d] 28) ∧ wx.heap[h]? = some (.cells #[.int .i64 p, .int .i64 q, .int .i64 r, .int .i64 s] 28))
  case first =>
    have keepq : ∀ {w' : World}, Hid (w1.cell? ⟨w.heap.size, 0, none⟩ = some (Value.int IntKind.i64 a) ∧ w1.cell? ⟨w.heap.size, 1, none⟩ = some (Value.int IntKind.i64 b) ∧ w1.cell? ⟨w.heap.size, 2, none⟩ = some (Value.int IntKind.i64 c) ∧ w1.cell? ⟨w.heap.size, 3, none⟩ = some (Value.int IntKind.i64 d) ∧ w1.cell? ⟨w.heap.size + 1, 0, none⟩ = some (Value.int IntKind.i64 p) ∧ w1.cell? ⟨w.heap.size + 1, 1, none⟩ = some (Value.int IntKind.i64 q) ∧ w1.cell? ⟨w.heap.size + 1, 2, none⟩ = some (Value.int IntKind.i64 r) ∧ w1.cell? ⟨w.heap.size + 1, 3, none⟩ = some (Value.int IntKind.i64 s)) → Stay w1 w' → w'.cell? ⟨w.heap.size, 0, none⟩ = some (Value.int IntKind.i64 a) ∧ w'.cell? ⟨w.heap.size, 1, none⟩ = some (Value.int IntKind.i64 b) ∧ w'.cell? ⟨w.heap.size, 2, none⟩ = some (Value.int IntKind.i64 c) ∧ w'.cell? ⟨w.heap.size, 3, none⟩ = some (Value.int IntKind.i64 d) ∧ w'.cell? ⟨w.heap.size + 1, 0, none⟩ = some (Value.int IntKind.i64 p) ∧ w'.cell? ⟨w.heap.size + 1, 1, none⟩ = some (Value.int IntKind.i64 q) ∧ w'.cell? ⟨w.heap.size + 1, 2, none⟩ = some (Value.int IntKind.i64 r) ∧ w'.cell? ⟨w.heap.size + 1, 3, none⟩ = some (Value.int IntKind.i64 s) := fun q h => by
      have q := q.out
      obtain ⟨k0, k1, k2, k3, k4, k5, k6, k7⟩ := q
      refine ⟨?_, ?_, ?_, ?_, ?_, ?_, ?_, ?_⟩
      · exact (h.2 _ _ (World.block_lt_of_cell? w1 _ k0)).trans k0
      · exact (h.2 _ _ (World.block_lt_of_cell? w1 _ k1)).trans k1
      · exact (h.2 _ _ (World.block_lt_of_cell? w1 _ k2)).trans k2
      · exact (h.2 _ _ (World.block_lt_of_cell? w1 _ k3)).trans k3
      · exact (h.2 _ _ (World.block_lt_of_cell? w1 _ k4)).trans k4
      · exact (h.2 _ _ (World.block_lt_of_cell? w1 _ k5)).trans k5
      · exact (h.2 _ _ (World.block_lt_of_cell? w1 _ k6)).trans k6
      · exact (h.2 _ _ (World.block_lt_of_cell? w1 _ k7)).trans k7
    have KEEP := Lib.hid (fun (w' : World) (h : Stay w1 w') => keepq (w' := w') QQ h)
    clear keepq
    go_region_held_law (fun w' => w'.cell? ⟨w.heap.size, 0, none⟩ = some (Value.int IntKind.i64 a) ∧ w'.cell? ⟨w.heap.size, 1, none⟩ = some (Value.int IntKind.i64 b) ∧ w'.cell? ⟨w.heap.size, 2, none⟩ = some (Value.int IntKind.i64 c) ∧ w'.cell? ⟨w.heap.size, 3, none⟩ = some (Value.int IntKind.i64 d) ∧ w'.cell? ⟨w.heap.size + 1, 0, none⟩ = some (Value.int IntKind.i64 p) ∧ w'.cell? ⟨w.heap.size + 1, 1, none⟩ = some (Value.int IntKind.i64 q) ∧ w'.cell? ⟨w.heap.size + 1, 2, none⟩ = some (Value.int IntKind.i64 r) ∧ w'.cell? ⟨w.heap.size + 1, 3, none⟩ = some (Value.int IntKind.i64 s))
      ((refine KEEP.out _ ?_; repeat (first | (with_reducible refine stay_set ?_ (by simp only; omega) _) | with_reducible refine stay_alloc ?_ _ | with_reducible refine stay_drew ?_ | with_reducible exact K2.out | with_reducible exact K1.out | with_reducible exact stay_of (Below.refl _ _))))
      ((first
        | (refine step_call (by rfl) (stretch_any a b c d _) ?_ ?_; (focus (go_simp; done)); rintro e w4 ⟨rfl, hb4⟩; refine ⟨_, rfl, ?_⟩; have J1 := Lib.hid (show Stay w1 w4 from stay_step (by repeat (first | with_reducible exact stay_of (Below.refl _ _) | with_reducible refine stay_drew ?_ | with_reducible refine stay_alloc ?_ _)) hb4); have K1 := J1; (try (refine cutin' (T := Hid (w4.heap[w1.heap.size]? = some (Obj.cells #[.int .i64 0, .int .i64 0, .int .i64 0, .int .i64 0] 28))) ?_ ?_; (focus (refine Lib.hid (pk_keep hb4 ?_); (repeat (first | (refine pk_new ?_; (simp; done)) | with_reducible refine pk_drew ?_ | with_reducible refine pk_alloc ?_)); done)); intro X0_1; have X0_z1 := lt_of_block X0_1.out)); (try (refine cutin' (T := Hid (w4.heap[w1.heap.size + 1]? = some (Obj.cells #[.int .i64 0, .int .i64 0, .int .i64 0, .int .i64 0] 28))) ?_ ?_; (focus (refine Lib.hid (pk_keep hb4 ?_); (repeat (first | (refine pk_new ?_; (simp; done)) | with_reducible refine pk_drew ?_ | with_reducible refine pk_alloc ?_)); done)); intro X1_1; have X1_z1 := lt_of_block X1_1.out)); have zw1 := J1.out.1.size; clear hb4)
        | (refine step_call (by rfl) (stretch_any p q r s _) ?_ ?_; (focus (go_simp; done)); rintro e w5 ⟨rfl, hb5⟩; refine ⟨_, rfl, ?_⟩; have J2 := Lib.hid (show Stay w4 w5 from stay_step (by repeat (first | with_reducible exact stay_of (Below.refl _ _) | with_reducible refine stay_drew ?_ | with_reducible refine stay_alloc ?_ _)) hb5); have K2 := Lib.hid (stay_trans' K1.out J2.out); (try (refine cutin' (T := Hid (w5.heap[w1.heap.size]? = some (Obj.cells #[.int .i64 0, .int .i64 0, .int .i64 0, .int .i64 0] 28))) ?_ ?_; (focus (refine Lib.hid (pk_keep hb5 ?_); (repeat (first | with_reducible exact X0_1.out | (refine pk_new ?_; (simp; done)) | with_reducible refine pk_drew ?_ | with_reducible refine pk_alloc ?_)); done)); intro X0_2; have x0_e0 := cell_of (j := 0) X0_2.out rfl; have x0_e1 := cell_of (j := 1) X0_2.out rfl; have x0_e2 := cell_of (j := 2) X0_2.out rfl; have x0_e3 := cell_of (j := 3) X0_2.out rfl; have x0_f := fun i => unfrozen_of_block X0_2.out i; have x0_z := lt_of_block X0_2.out)); (try (refine cutin' (T := Hid (w5.heap[w1.heap.size + 1]? = some (Obj.cells #[.int .i64 0, .int .i64 0, .int .i64 0, .int .i64 0] 28))) ?_ ?_; (focus (refine Lib.hid (pk_keep hb5 ?_); (repeat (first | with_reducible exact X1_1.out | (refine pk_new ?_; (simp; done)) | with_reducible refine pk_drew ?_ | with_reducible refine pk_alloc ?_)); done)); intro X1_2; have x1_e0 := cell_of (j := 0) X1_2.out rfl; have x1_e1 := cell_of (j := 1) X1_2.out rfl; have x1_e2 := cell_of (j := 2) X1_2.out rfl; have x1_e3 := cell_of (j := 3) X1_2.out rfl; have x1_f := fun i => unfrozen_of_block X1_2.out i; have x1_z := lt_of_block X1_2.out)); (try (refine cutin' (T := Hid (w5.heap[w4.heap.size]? = some (Obj.cells #[.int .i64 0, .int .i64 0, .int .i64 0, .int .i64 0] 28))) ?_ ?_; (focus (refine Lib.hid (pk_keep hb5 ?_); (repeat (first | (refine pk_new ?_; (simp; done)) | with_reducible refine pk_drew ?_ | with_reducible refine pk_alloc ?_)); done)); intro Y0_2; have y0_e0 := cell_of (j := 0) Y0_2.out rfl; have y0_e1 := cell_of (j := 1) Y0_2.out rfl; have y0_e2 := cell_of (j := 2) Y0_2.out rfl; have y0_e3 := cell_of (j := 3) Y0_2.out rfl; have y0_f := fun i => unfrozen_of_block Y0_2.out i; have y0_z := lt_of_block Y0_2.out)); (try (refine cutin' (T := Hid (w5.heap[w4.heap.size + 1]? = some (Obj.cells #[.int .i64 0, .int .i64 0, .int .i64 0, .int .i64 0] 28))) ?_ ?_; (focus (refine Lib.hid (pk_keep hb5 ?_); (repeat (first | (refine pk_new ?_; (simp; done)) | with_reducible refine pk_drew ?_ | with_reducible refine pk_alloc ?_)); done)); intro Y1_2; have y1_e0 := cell_of (j := 0) Y1_2.out rfl; have y1_e1 := cell_of (j := 1) Y1_2.out rfl; have y1_e2 := cell_of (j := 2) Y1_2.out rfl; have y1_e3 := cell_of (j := 3) Y1_2.out rfl; have y1_f := fun i => unfrozen_of_block Y1_2.out i; have y1_z := lt_of_block Y1_2.out)); have zw2 := J2.out.1.size; have zk2 := K2.out.1.size; clear hb5)))
    all_goals
      go_wp2_with fail
      go_meet
      refine ⟨_, _, rfl, rfl, ?_, ?_, ?_⟩
      · repeat (first | (with_reducible refine stay_set ?_ (by simp only; omega) _) | with_reducible refine stay_alloc ?_ _ | with_reducible refine stay_drew ?_ | with_reducible exact K2.out)
      all_goals
        repeat (first | with_reducible exact X0_2.out | with_reducible exact X1_2.out | with_reducible exact Y0_2.out | with_reducible exact Y1_2.out | with_reducible refine pk_drew ?_ | with_reducible refine pk_put ?_ | (with_reducible refine pk_set ?_ ?_; (focus (simp only; omega))) | (refine pk_new ?_; (focus (simp; done))) | with_reducible refine pk_alloc ?_)
  case rest =>
    obtain ⟨g, h, rfl, rfl, hS, hg, hh⟩ := hcut
    rename_i wc _
    have g0 := cell_of (j := 0) hg rfl
    have h0 := cell_of (j := 0) hh rfl
    have g1 := cell_of (j := 1) hg rfl
    have h1 := cell_of (j := 1) hh rfl
    have g2 := cell_of (j := 2) hg rfl
    have h2 := cell_of (j := 2) hh rfl
    have g3 := cell_of (j := 3) hg rfl
    have h3 := cell_of (j := 3) hh rfl
    go_wp2_with fail
    have hB0 := hW1.out.trans (hS.1.mono hW1.out.size)
    have hB1 := below_alloc1 wc (.cells #[Value.int IntKind.i64 a, Value.int IntKind.i64 b, Value.int IntKind.i64 c, Value.int IntKind.i64 d, Value.int IntKind.i64 p, Value.int IntKind.i64 q, Value.int IntKind.i64 r, Value.int IntKind.i64 s] 26)
    have hg := lt_of_block hg
    have hh := lt_of_block hh
    have HN := Lib.hid (heap_alloc_new wc (.cells #[Value.int IntKind.i64 a, Value.int IntKind.i64 b, Value.int IntKind.i64 c, Value.int IntKind.i64 d, Value.int IntKind.i64 p, Value.int IntKind.i64 q, Value.int IntKind.i64 r, Value.int IntKind.i64 s] 26))
    have hxy : ∀ j : Nat, j < 4 → ∃ x y : Int, #[Value.int IntKind.i64 a, Value.int IntKind.i64 b, Value.int IntKind.i64 c, Value.int IntKind.i64 d, Value.int IntKind.i64 p, Value.int IntKind.i64 q, Value.int IntKind.i64 r, Value.int IntKind.i64 s][j * 2]? = some (.int .i64 x) ∧ #[Value.int IntKind.i64 a, Value.int IntKind.i64 b, Value.int IntKind.i64 c, Value.int IntKind.i64 d, Value.int IntKind.i64 p, Value.int IntKind.i64 q, Value.int IntKind.i64 r, Value.int IntKind.i64 s][j * 2 + 1]? = some (.int .i64 y) := by
      intro j hj
      rcases (show j = 0 ∨ j = 1 ∨ j = 2 ∨ j = 3 by omega) with rfl | rfl | rfl | rfl
      all_goals exact ⟨_, _, rfl, rfl⟩
    have HX := Lib.hid hxy; clear hxy
    have HCG := Lib.hid (⟨g0, g1, g2, g3, h0, h1, h2, h3⟩ : wc.cell? ⟨g, 0, none⟩ = some (.int .i64 a) ∧ wc.cell? ⟨g, 1, none⟩ = some (.int .i64 b) ∧ wc.cell? ⟨g, 2, none⟩ = some (.int .i64 c) ∧ wc.cell? ⟨g, 3, none⟩ = some (.int .i64 d) ∧ wc.cell? ⟨h, 0, none⟩ = some (.int .i64 p) ∧ wc.cell? ⟨h, 1, none⟩ = some (.int .i64 q) ∧ wc.cell? ⟨h, 2, none⟩ = some (.int .i64 r) ∧ wc.cell? ⟨h, 3, none⟩ = some (.int .i64 s))
    have HS := Lib.hid hS
    clear hS g0 g1 g2 g3 h0 h1 h2 h3
    go_loopw [23] (fun i wr => ∃ j : Nat, j ≤ 4 ∧ i = .int .i64 j ∧ Below (wc.alloc (.cells #[Value.int IntKind.i64 a, Value.int IntKind.i64 b, Value.int IntKind.i64 c, Value.int IntKind.i64 d, Value.int IntKind.i64 p, Value.int IntKind.i64 q, Value.int IntKind.i64 r, Value.int IntKind.i64 s] 26)).heap.size (wc.alloc (.cells #[Value.int IntKind.i64 a, Value.int IntKind.i64 b, Value.int IntKind.i64 c, Value.int IntKind.i64 d, Value.int IntKind.i64 p, Value.int IntKind.i64 q, Value.int IntKind.i64 r, Value.int IntKind.i64 s] 26)) wr) (fun i _ => 4 - (intOf i).toNat)
    case atStart => exact ⟨0, Nat.zero_le _, rfl, Below.refl _ _⟩
    case round =>
      obtain ⟨j, hj, rfl, hB⟩ := hrel
      have hBW : Below wc.heap.size wc wr := hB1.trans (hB.mono (by simp))
      have hBB := hB0.trans (hBW.mono hB0.size)
      by_cases hjl : j < 4
      · obtain ⟨x, y, ex, ey⟩ := HX.out j hjl
        have cx : wr.cell? ⟨wc.heap.size, j * 2, none⟩ = some (.int .i64 x) := by
          rw [(bcell hB).1 _ _ (by simp), ← ex]
          exact cell_of_row _ _ _ _ _ _ HN.out
        have cy : wr.cell? ⟨wc.heap.size, j * 2 + 1, none⟩ = some (.int .i64 y) := by
          rw [(bcell hB).1 _ _ (by simp), ← ey]
          exact cell_of_row _ _ _ _ _ _ HN.out
        clear ex ey
        obtain ⟨t, ht⟩ : ∃ t, sml x y = t := ⟨_, rfl⟩
        have HT := Lib.hid ht; clear ht
        go_wp2_with fail
        refine (small_is x y _ HT.out).mono ?_
        rintro e w2 ⟨rfl, hb2⟩
        have hB2 := hB.trans (((below_alloc1 wr _).trans (hb2.mono (by simp))).mono hB.size)
        cases t
        · go_wp2
          go_ret
          exact ⟨rfl, hB0.trans ((hB1.trans (hB2.mono (by simp))).mono hB0.size)⟩
        · go_wp2
          go_roundw
          case rel => exact ⟨j + 1, by omega, by go_num, hB2⟩
          case measure => simp [intOf]; omega
      · have hje : j = 4 := by omega
        subst hje
        have HGH := Lib.hid (fun (wz : World) (hz : Below wc.heap.size wc wz) => (⟨cell_keep hz HCG.out.1, cell_keep hz HCG.out.2.1, cell_keep hz HCG.out.2.2.1, cell_keep hz HCG.out.2.2.2.1, cell_keep hz HCG.out.2.2.2.2.1, cell_keep hz HCG.out.2.2.2.2.2.1, cell_keep hz HCG.out.2.2.2.2.2.2.1, cell_keep hz HCG.out.2.2.2.2.2.2.2⟩ :
          wz.cell? ⟨g, 0, none⟩ = some (.int .i64 a) ∧ wz.cell? ⟨g, 1, none⟩ = some (.int .i64 b) ∧ wz.cell? ⟨g, 2, none⟩ = some (.int .i64 c) ∧ wz.cell? ⟨g, 3, none⟩ = some (.int .i64 d) ∧ wz.cell? ⟨h, 0, none⟩ = some (.int .i64 p) ∧ wz.cell? ⟨h, 1, none⟩ = some (.int .i64 q) ∧ wz.cell? ⟨h, 2, none⟩ = some (.int .i64 r) ∧ wz.cell? ⟨h, 3, none⟩ = some (.int .i64 s)))
        obtain ⟨g0, g1, g2, g3, h0, h1, h2, h3⟩ := HGH.out wr hBW
        obtain ⟨t1, ht1⟩ : ∃ t, bfr p q a b = t := ⟨_, rfl⟩
        obtain ⟨t2, ht2⟩ : ∃ t, bfr r s c d = t := ⟨_, rfl⟩
        obtain ⟨t3, ht3⟩ : ∃ t, bfr c d a b = t := ⟨_, rfl⟩
        obtain ⟨t4, ht4⟩ : ∃ t, bfr r s p q = t := ⟨_, rfl⟩
        have T1 := Lib.hid ht1; have T2 := Lib.hid ht2; have T3 := Lib.hid ht3; have T4 := Lib.hid ht4
        clear ht1 ht2 ht3 ht4 hB hBB
        go_wp2_with fail
        refine (specBefore_is p q a b _ T1.out).mono ?_
        rintro e w2 ⟨rfl, hb2⟩
        have hW2 := hBW.trans (hb2.mono hBW.size)
        have hB2 := hB0.trans (hW2.mono hB0.size)
        clear g0 g1 g2 g3 h0 h1 h2 h3 hb2
        obtain ⟨g0, g1, g2, g3, h0, h1, h2, h3⟩ := HGH.out w2 hW2
        cases t1
        rotate_left
        · go_wp2
          go_ret
          exact ⟨rfl, hB2⟩
        go_wp2_with fail
        refine (specBefore_is r s c d _ T2.out).mono ?_
        rintro e w3 ⟨rfl, hb3⟩
        have hW3 := hW2.trans (hb3.mono hW2.size)
        have hB3 := hB0.trans (hW3.mono hB0.size)
        clear g0 g1 g2 g3 h0 h1 h2 h3 hb3 hW2 hB2
        obtain ⟨g0, g1, g2, g3, h0, h1, h2, h3⟩ := HGH.out w3 hW3
        cases t2
        rotate_left
        · go_wp2
          go_ret
          exact ⟨rfl, hB3⟩
        go_wp2_with fail
        refine (specBefore_is c d a b _ T3.out).mono ?_
        rintro e w4 ⟨rfl, hb4⟩
        have hW4 := hW3.trans (hb4.mono hW3.size)
        have hB4 := hB0.trans (hW4.mono hB0.size)
        clear g0 g1 g2 g3 h0 h1 h2 h3 hb4 hW3 hB3
        obtain ⟨g0, g1, g2, g3, h0, h1, h2, h3⟩ := HGH.out w4 hW4
        cases t3
        rotate_left
        · go_wp2
          go_ret
          exact ⟨rfl, hB4⟩
        go_wp2_with fail
        refine (specBefore_is r s p q _ T4.out).mono ?_
        rintro e w5 ⟨rfl, hb5⟩
        have hW5 := hW4.trans (hb5.mono hW4.size)
        have hB5 := hB0.trans (hW5.mono hB0.size)
        clear g0 g1 g2 g3 h0 h1 h2 h3 hb5 hW4 hB4
        obtain ⟨g0, g1, g2, g3, h0, h1, h2, h3⟩ := HGH.out w5 hW5
        cases t4
        rotate_left
        · go_wp2
          go_ret
          exact ⟨rfl, hB5⟩
        have hA5 := pk_keep hW5 (pk_keep HS.out.1 HPQ.out.1)
        have hQ5 := pk_keep hW5 (pk_keep HS.out.1 HPQ.out.2)
        have a0 := cell_of (j := 0) hA5 rfl
        have b0 := cell_of (j := 0) hQ5 rfl
        have a1 := cell_of (j := 1) hA5 rfl
        have b1 := cell_of (j := 1) hQ5 rfl
        have a2 := cell_of (j := 2) hA5 rfl
        have b2 := cell_of (j := 2) hQ5 rfl
        have a3 := cell_of (j := 3) hA5 rfl
        have b3 := cell_of (j := 3) hQ5 rfl
        have z1 : g < w5.heap.size := by have := hW5.size; omega
        have z2 : h < w5.heap.size := by have := hW5.size; omega
        have z3 := lt_of_block hQ5
        have z4 := lt_of_block hA5
        clear hA5 hQ5
        have ea : (a == a) = true := by simp
        have eb : (b == b) = true := by simp
        have er : (r == r) = true := by simp
        have es : (s == s) = true := by simp
        go_wp2_with fail
        refine wp_region_quiet_C (Stay w5) (by kernel_rfl) (by kernel_rfl) (stay_start _) ?_
        repeat (first
          | (refine wpQ_skip (by rfl) ?_; simp only [Act.put, List.setIfInBounds_toArray, List.set_cons_zero, List.set_cons_succ])
          | (refine wpQ_value (v := ?_) (by rfl) ?_ ?_; rotate_left; (intro w hw; go_simp; done); simp only [Act.put, List.setIfInBounds_toArray, List.set_cons_zero, List.set_cons_succ])
          | (refine wpQ_value (v := ?_) (by rfl) ?_ ?_; rotate_left; (intro w hw; go_simp; with_reducible rfl); simp only [Act.put, List.setIfInBounds_toArray, List.set_cons_zero, List.set_cons_succ])
          | (refine wpQ_call (f := ?_) (args := ?_) (v := ?_) (by rfl) ?_ ?_ ?_; rotate_left 3; (intro w hw; go_simp; first | with_reducible rfl | (constructor; with_reducible rfl; with_reducible rfl)); (intro w hw; first | (refine (between_any a b c d p q r s _).mono ?_; rintro e w'' ⟨rfl, hbw⟩; constructor; with_reducible rfl; exact stay_step hw hbw) | (refine (stretch_any a b r s _).mono ?_; rintro e w'' ⟨rfl, hbw⟩; constructor; with_reducible rfl; exact stay_step hw hbw)); simp only [Act.put, List.setIfInBounds_toArray, List.set_cons_zero, List.set_cons_succ]))
        refine wpQuiet_nil ?_
        intro w6 hS6
        have hB6 := hB5.trans (hS6.1.mono hB5.size)
        clear a0 a1 a2 a3 b0 b1 b2 b3 g0 g1 g2 g3 h0 h1 h2 h3
        go_wp2
        go_ret
        exact ⟨rfl, hB6⟩
end Go.Proofs.Ythppionkcfkafaa
