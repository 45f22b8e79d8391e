/-
  FnLevels' walk. Conditions: the lengths of the arguments' lists; the map of the precedences holds what the program's text lays in it.
-/
import Derived.Test.YthppionkcfkafaaDoorSize
import Derived.Test.YthppionkcfkafaaDoorFits
import Derived.Test.YthppionkcfkafaaDoorRank
import Derived.Deep.RegionHeldLaw
namespace Go.Proofs.YthppionkcfkafaaDoor
open Go.ChangeShapes Go.WideShapes Go.ChangeAt Go.RowKit Go.Joins Go.WideElems Go.Maps

theorem cutin' {T G : Prop} (h : T) (k : T → G) : G := k h
theorem pk_keep {W w : World} {g : Nat} {o : Obj} (hb : Below W.heap.size W w) (h : W.heap[g]? = some o) : w.heap[g]? = some o := (hb.block g (lt_of_block h)).trans h
theorem pk_alloc {W : World} {g : Nat} {o o' : Obj} (h : W.heap[g]? = some o) : (W.alloc o').heap[g]? = some o := (Below.heap_alloc W o' g (lt_of_block h)).trans h
theorem pk_drew {W : World} {g : Nat} {o : Obj} (h : W.heap[g]? = some o) : W.drew.heap[g]? = some o := h
theorem pk_new {W : World} {g : Nat} {o : Obj} (hg : g = W.heap.size) : (W.alloc o).heap[g]? = some o := by subst hg; exact heap_alloc_new W o
theorem pk_set {W : World} {g : Nat} {o : Obj} {p : Addr} {u : Value} (hn : g ≠ p.block) (h : W.heap[g]? = some o) : (W.setCell p u).heap[g]? = some o := (Below.heap_setCell _ _ _ _ hn).trans h
theorem pk_put {w : World} {g : Nat} {v0 v1 v2 v3 v4 : Value} (h : w.heap[g]? = some (Obj.cells #[.int .i64 0, .string ByteArray.empty, .int .i64 0, .bool false, .slice none 0 0] 28)) : (((((w.setCell ⟨g, 0, none⟩ v0).setCell ⟨g, 1, none⟩ v1).setCell ⟨g, 2, none⟩ v2).setCell ⟨g, 3, none⟩ v3).setCell ⟨g, 4, none⟩ v4).heap[g]? = some (.cells #[v0, v1, v2, v3, v4] 28) := by
  simp [World.setCell, Array.getElem?_modify, h]
theorem stay_trans' {A B C : World} (h : Stay A B) (h' : Stay B C) : Stay A C := stay_of (h.1.trans (h'.1.mono h.1.size))
/-- The blocks from one number on, up to another, are as they were. -/
def KeepOn (lo hi : Nat) (w w' : World) : Prop := hi ≤ w'.heap.size ∧ ∀ k, lo ≤ k → k < hi → w'.heap[k]? = w.heap[k]?
theorem ko_refl {lo hi : Nat} {w : World} (h : hi ≤ w.heap.size) : KeepOn lo hi w w := ⟨h, fun _ _ _ => rfl⟩
theorem ko_drew {lo hi : Nat} {w w' : World} (h : KeepOn lo hi w w') : KeepOn lo hi w w'.drew := h
theorem ko_alloc {lo hi : Nat} {w w' : World} (h : KeepOn lo hi w w') (o : Obj) : KeepOn lo hi w (w'.alloc o) := ⟨by have := h.1; simp; omega, fun k hl hk => (Below.heap_alloc w' o k (Nat.lt_of_lt_of_le hk h.1)).trans (h.2 k hl hk)⟩
theorem ko_set {lo hi : Nat} {w w' : World} {p : Addr} (h : KeepOn lo hi w w') (hp : p.block < lo ∨ hi ≤ p.block) (u : Value) : KeepOn lo hi w (w'.setCell p u) := ⟨by have := h.1; simpa [World.setCell] using this, fun k hl hk => (Below.heap_setCell _ _ _ _ (by omega)).trans (h.2 k hl hk)⟩
theorem ko_below {lo hi : Nat} {w w' w'' : World} (h : KeepOn lo hi w w') (hb : Below w'.heap.size w' w'') : KeepOn lo hi w w'' := ⟨Nat.le_trans h.1 hb.size, fun k hl hk => (hb.block k (Nat.lt_of_lt_of_le hk h.1)).trans (h.2 k hl hk)⟩
theorem subs_on {w w' : World} {lo : Nat} {S : Nat → Prop} {l : List Tr} {v : Value} (h : Subs w S l v) (hS : ∀ k, S k → lo ≤ k) (hk : KeepOn lo w.heap.size w w') : Subs w' (fun _ => True) l v := h.keep (fun _ _ _ => trivial) (fun k hs hlt => hk.2 k (hS k hs) hlt)
theorem rank_is {t : Tr} {x : Int} (hx : rankF t = x) (ok : Ok t) {S : Nat → Prop} {w : World} {u : Value} (hs : Subs w S t.subs u) :
    Calls Tryd.prog 9 #[.agg #[.int .i64 t.k, .string t.tx, .int .i64 t.op, .bool t.fl, u]] w fun e w' => e = .returned (.int .i64 x) ∧ Below w.heap.size w w' := hx ▸ rank_any ok hs
theorem level_is {t : Tr} {x : Int} (hx : levF t = x) (ok : Ok t) {S : Nat → Prop} {w : World} {u : Value} (hs : Subs w S t.subs u) {bm : Nat} (hL : ∀ w', Below w.heap.size w w' → HasLev w' bm) :
    Calls Tryd.prog 10 #[.agg #[.int .i64 t.k, .string t.tx, .int .i64 t.op, .bool t.fl, u]] w fun e w' => e = .returned (.int .i64 x) ∧ Below w.heap.size w w' := hx ▸ implLevel_any ok hs hL
/-- Where the law stands: its arguments and what it made of them. -/
structure LevW (w wi : World) (g h : Nat) (t s : Tr) (S T : Nat → Prop) (a b a2 a3 : Option Addr) (cap cbp c2 c3 : Nat) : Prop where
  bel : Below w.heap.size w wi
  pa : wi.heap[w.heap.size]? = some (.cells #[.int .i64 t.k, .string t.tx, .int .i64 t.op, .bool t.fl, .slice a t.subs.length cap] 24)
  pb : wi.heap[w.heap.size + 1]? = some (.cells #[.int .i64 s.k, .string s.tx, .int .i64 s.op, .bool s.fl, .slice b s.subs.length cbp] 24)
  gx : wi.heap[g]? = some (.cells #[.int .i64 t.k, .string t.tx, .int .i64 t.op, .bool t.fl, .slice a2 t.subs.length c2] 28)
  hx : wi.heap[h]? = some (.cells #[.int .i64 s.k, .string s.tx, .int .i64 s.op, .bool s.fl, .slice a3 s.subs.length c3] 28)
  sa : Subs wi S t.subs (.slice a t.subs.length cap)
  sb : Subs wi T s.subs (.slice b s.subs.length cbp)
  sx : Subs wi (fun _ => True) t.subs (.slice a2 t.subs.length c2)
  sy : Subs wi (fun _ => True) s.subs (.slice a3 s.subs.length c3)
theorem LevW.go {w wi wj : World} {g h : Nat} {t s : Tr} {S T : Nat → Prop} {a b a2 a3 : Option Addr} {cap cbp c2 c3 : Nat} (k : LevW w wi g h t s S T a b a2 a3 cap cbp c2 c3) (hb : Below wi.heap.size wi wj) : LevW w wj g h t s S T a b a2 a3 cap cbp c2 c3 :=
  ⟨k.bel.trans (hb.mono k.bel.size), pk_keep hb k.pa, pk_keep hb k.pb, pk_keep hb k.gx, pk_keep hb k.hx, k.sa.bel hb, k.sb.bel hb, k.sx.bel hb, k.sy.bel hb⟩
theorem tri {m n x y : Int} (h1 : m < n ↔ x < y) (h2 : m = n ↔ x = y) : ∃ p q : Bool, decide (m < n) = p ∧ decide (x < y) = p ∧ (m == n) = q ∧ (x == y) = q := by
  refine ⟨decide (x < y), decide (x = y), decide_eq_decide.2 h1, rfl, ?_, rfl⟩
  have h3 : (m == n) = decide (m = n) := rfl
  rw [h3]
  exact decide_eq_decide.2 h2
set_option maxRecDepth 100000 in
set_option maxHeartbeats 40000000 in
theorem levels_walk {t s : Tr} {S T : Nat → Prop} {w : World} {u v : Value} {bm : Nat} (hs : Subs w S t.subs u) (ht : Subs w T s.subs v) (hbd : Bnd 2199023255488 t) (hbd2 : Bnd 2199023255488 s) (hL : ∀ w', Below w.heap.size w w' → HasLev w' bm) :
    Calls Tryd.prog 3 #[.agg #[.int .i64 t.k, .string t.tx, .int .i64 t.op, .bool t.fl, u], .agg #[.int .i64 s.k, .string s.tx, .int .i64 s.op, .bool s.fl, v]] w fun e w' => e = .returned (.bool true) ∧ Below w.heap.size w w' := by
  obtain ⟨a, cap, rfl, hcap⟩ := hs.form
  obtain ⟨b, cbp, rfl, hcbp⟩ := ht.form
  have HBD := Lib.hid hbd; have HBD2 := Lib.hid hbd2; have HL := Lib.hid hL; clear hbd hbd2 hL
  have hB := below_alloc2 w (.cells #[.int .i64 t.k, .string t.tx, .int .i64 t.op, .bool t.fl, .slice a t.subs.length cap] 24) (.cells #[.int .i64 s.k, .string s.tx, .int .i64 s.op, .bool s.fl, .slice b s.subs.length cbp] 24)
  have HS := Lib.hid (hs.bel hB); have HT := Lib.hid (ht.bel hB)
  have HPQ := Lib.hid (And.intro (show ((w.alloc (.cells #[.int .i64 t.k, .string t.tx, .int .i64 t.op, .bool t.fl, .slice a t.subs.length cap] 24)).alloc (.cells #[.int .i64 s.k, .string s.tx, .int .i64 s.op, .bool s.fl, .slice b s.subs.length cbp] 24)).heap[w.heap.size]? = some (.cells #[.int .i64 t.k, .string t.tx, .int .i64 t.op, .bool t.fl, .slice a t.subs.length cap] 24) from pk_alloc (pk_new rfl)) (show ((w.alloc (.cells #[.int .i64 t.k, .string t.tx, .int .i64 t.op, .bool t.fl, .slice a t.subs.length cap] 24)).alloc (.cells #[.int .i64 s.k, .string s.tx, .int .i64 s.op, .bool s.fl, .slice b s.subs.length cbp] 24)).heap[w.heap.size + 1]? = some (.cells #[.int .i64 s.k, .string s.tx, .int .i64 s.op, .bool s.fl, .slice b s.subs.length cbp] 24) from pk_new (by simp)))
  clear hs ht
  go_enter Tryd.func3, Tryd.ntmps3
  go_wp2_with fail
  refine (fits6_any _ _ _ _ _ _ _ _).mono ?_
  rintro e wa ⟨⟨r, rfl⟩, hba⟩
  have hBa := hB.trans (hba.mono hB.size)
  have HPA := Lib.hid (And.intro (pk_keep hba HPQ.out.1) (pk_keep hba HPQ.out.2))
  have HSa := Lib.hid (HS.out.bel hba); have HTa := Lib.hid (HT.out.bel hba)
  clear hba hB HS HT HPQ
  cases r
  · go_wp2
    go_ret
    exact ⟨rfl, hBa⟩
  have pq0 := cell_of (j := 0) HPA.out.2 rfl
  have pq1 := cell_of (j := 1) HPA.out.2 rfl
  have pq2 := cell_of (j := 2) HPA.out.2 rfl
  have pq3 := cell_of (j := 3) HPA.out.2 rfl
  have pq4 := cell_of (j := 4) HPA.out.2 rfl
  have zq := lt_of_block HPA.out.2
  go_wp2_with fail
  refine (fits6_any _ _ _ _ _ _ _ _).mono ?_
  rintro e w1 ⟨⟨r, rfl⟩, hb1⟩
  have HB1 := Lib.hid (hBa.trans (hb1.mono hBa.size))
  have hP := pk_keep hb1 HPA.out.1
  have hQ := pk_keep hb1 HPA.out.2
  have HS1 := Lib.hid (HSa.out.bel hb1); have HT1 := Lib.hid (HTa.out.bel hb1)
  clear hb1 hBa HSa HTa HPA pq0 pq1 pq2 pq3 pq4 zq
  cases r
  · go_wp2
    go_ret
    exact ⟨rfl, HB1.out⟩
  have p0 := cell_of (j := 0) hP rfl
  have p1 := cell_of (j := 1) hP rfl
  have p2 := cell_of (j := 2) hP rfl
  have p3 := cell_of (j := 3) hP rfl
  have p4 := cell_of (j := 4) hP rfl
  have q0 := cell_of (j := 0) hQ rfl
  have q1 := cell_of (j := 1) hQ rfl
  have q2 := cell_of (j := 2) hQ rfl
  have q3 := cell_of (j := 3) hQ rfl
  have q4 := cell_of (j := 4) hQ rfl
  have zP := lt_of_block hP
  have zQ := lt_of_block hQ
  have QQ := Lib.hid (And.intro p0 (And.intro p1 (And.intro p2 (And.intro p3 (And.intro p4 (And.intro q0 (And.intro q1 (And.intro q2 (And.intro q3 q4)))))))))
  have HPQ1 := Lib.hid (And.intro hP hQ)
  clear hP hQ
  go_upto_region 3 with fail
  go_cut [5, 6] (fun x y wx => ∃ (g h : Nat) (a2 a3 : Option Addr) (c2 c3 : Nat), x = .pointer (some ⟨g, 0, none⟩) ∧ y = .pointer (some ⟨h, 0, none⟩) ∧ Stay w1 wx ∧ wx.heap[g]? = some (.cells #[.int .i64 t.k, .string t.tx, .int .i64 t.op, .bool t.fl, .slice a2 t.subs.length c2] 28) ∧ wx.heap[h]? = some (.cells #[.int .i64 s.k, .string s.tx, .int .i64 s.op, .bool s.fl, .slice a3 s.subs.length c3] 28) ∧ Subs wx (fun _ => True) t.subs (.slice a2 t.subs.length c2) ∧ Subs wx (fun _ => True) s.subs (.slice a3 s.subs.length c3))
  case first =>
    have keepq : ∀ (w' : World), Stay w1 w' → w'.cell? ⟨w.heap.size, 0, none⟩ = some (Value.int IntKind.i64 t.k) ∧ w'.cell? ⟨w.heap.size, 1, none⟩ = some (Value.string t.tx) ∧ w'.cell? ⟨w.heap.size, 2, none⟩ = some (Value.int IntKind.i64 t.op) ∧ w'.cell? ⟨w.heap.size, 3, none⟩ = some (Value.bool t.fl) ∧ w'.cell? ⟨w.heap.size, 4, none⟩ = some (Value.slice a t.subs.length cap) ∧ w'.cell? ⟨w.heap.size + 1, 0, none⟩ = some (Value.int IntKind.i64 s.k) ∧ w'.cell? ⟨w.heap.size + 1, 1, none⟩ = some (Value.string s.tx) ∧ w'.cell? ⟨w.heap.size + 1, 2, none⟩ = some (Value.int IntKind.i64 s.op) ∧ w'.cell? ⟨w.heap.size + 1, 3, none⟩ = some (Value.bool s.fl) ∧ w'.cell? ⟨w.heap.size + 1, 4, none⟩ = some (Value.slice b s.subs.length cbp) := fun w' h => by
      obtain ⟨k0, k1, k2, k3, k4, k5, k6, k7, k8, k9⟩ := QQ.out
      refine ⟨?_, ?_, ?_, ?_, ?_, ?_, ?_, ?_, ?_, ?_⟩
      · exact (h.2 _ _ (World.block_lt_of_cell? w1 _ k0)).trans k0
      · exact (h.2 _ _ (World.block_lt_of_cell? w1 _ k1)).trans k1
      · exact (h.2 _ _ (World.block_lt_of_cell? w1 _ k2)).trans k2
      · exact (h.2 _ _ (World.block_lt_of_cell? w1 _ k3)).trans k3
      · exact (h.2 _ _ (World.block_lt_of_cell? w1 _ k4)).trans k4
      · exact (h.2 _ _ (World.block_lt_of_cell? w1 _ k5)).trans k5
      · exact (h.2 _ _ (World.block_lt_of_cell? w1 _ k6)).trans k6
      · exact (h.2 _ _ (World.block_lt_of_cell? w1 _ k7)).trans k7
      · exact (h.2 _ _ (World.block_lt_of_cell? w1 _ k8)).trans k8
      · exact (h.2 _ _ (World.block_lt_of_cell? w1 _ k9)).trans k9
    have KEEP := Lib.hid keepq; clear keepq
    go_region_held_law (fun w' => w'.cell? ⟨w.heap.size, 0, none⟩ = some (Value.int IntKind.i64 t.k) ∧ w'.cell? ⟨w.heap.size, 1, none⟩ = some (Value.string t.tx) ∧ w'.cell? ⟨w.heap.size, 2, none⟩ = some (Value.int IntKind.i64 t.op) ∧ w'.cell? ⟨w.heap.size, 3, none⟩ = some (Value.bool t.fl) ∧ w'.cell? ⟨w.heap.size, 4, none⟩ = some (Value.slice a t.subs.length cap) ∧ w'.cell? ⟨w.heap.size + 1, 0, none⟩ = some (Value.int IntKind.i64 s.k) ∧ w'.cell? ⟨w.heap.size + 1, 1, none⟩ = some (Value.string s.tx) ∧ w'.cell? ⟨w.heap.size + 1, 2, none⟩ = some (Value.int IntKind.i64 s.op) ∧ w'.cell? ⟨w.heap.size + 1, 3, none⟩ = some (Value.bool s.fl) ∧ w'.cell? ⟨w.heap.size + 1, 4, none⟩ = some (Value.slice b s.subs.length cbp))
      ((refine KEEP.out _ ?_; repeat (first | (with_reducible refine stay_set ?_ (by simp only; omega) _) | with_reducible refine stay_alloc ?_ _ | with_reducible refine stay_drew ?_ | with_reducible exact K2.out | with_reducible exact K1.out | with_reducible exact stay_of (Below.refl _ _))))
      ((first
        | (refine step_call (by rfl) (lawsTree_any t (HS1.out.bel (show Stay w1 _ from by (repeat (first | with_reducible exact stay_of (Below.refl _ _) | with_reducible refine stay_drew ?_ | with_reducible refine stay_alloc ?_ _))).1) HBD.out) ?_ ?_; (focus (go_simp; done)); rintro e w4 ⟨⟨u2, rfl, hs2⟩, hb4⟩; refine ⟨_, rfl, ?_⟩; obtain ⟨a2, c2, rfl, _⟩ := hs2.form; have R1 := Lib.hid hs2; clear hs2; have J1 := Lib.hid (show Stay w1 w4 from stay_step (by repeat (first | with_reducible exact stay_of (Below.refl _ _) | with_reducible refine stay_drew ?_ | with_reducible refine stay_alloc ?_ _)) hb4); have K1 := J1; (try (refine cutin' (T := Hid (w4.heap[w1.heap.size]? = some (Obj.cells #[.int .i64 0, .string ByteArray.empty, .int .i64 0, .bool false, .slice none 0 0] 28))) ?_ ?_; (focus (refine Lib.hid (pk_keep hb4 ?_); (repeat (first | (refine pk_new ?_; (simp; done)) | with_reducible refine pk_drew ?_ | with_reducible refine pk_alloc ?_)); done)); intro X0_1; have X0_z1 := lt_of_block X0_1.out)); (try (refine cutin' (T := Hid (w4.heap[w1.heap.size + 1]? = some (Obj.cells #[.int .i64 0, .string ByteArray.empty, .int .i64 0, .bool false, .slice none 0 0] 28))) ?_ ?_; (focus (refine Lib.hid (pk_keep hb4 ?_); (repeat (first | (refine pk_new ?_; (simp; done)) | with_reducible refine pk_drew ?_ | with_reducible refine pk_alloc ?_)); done)); intro X1_1; have X1_z1 := lt_of_block X1_1.out)); have zw1 := J1.out.1.size; clear hb4)
        | (refine step_call (by rfl) (lawsTree_any s (HT1.out.bel (show Stay w1 _ from by (repeat (first | with_reducible exact K1.out | with_reducible exact stay_of (Below.refl _ _) | with_reducible refine stay_drew ?_ | with_reducible refine stay_alloc ?_ _))).1) HBD2.out) ?_ ?_; (focus (go_simp; done)); rintro e w5 ⟨⟨u3, rfl, hs3⟩, hb5⟩; refine ⟨_, rfl, ?_⟩; obtain ⟨a3, c3, rfl, _⟩ := hs3.form; have R2 := Lib.hid hs3; clear hs3; have J2 := Lib.hid (show Stay w4 w5 from stay_step (by repeat (first | with_reducible exact stay_of (Below.refl _ _) | with_reducible refine stay_drew ?_ | with_reducible refine stay_alloc ?_ _)) hb5); have K2 := Lib.hid (stay_trans' K1.out J2.out); (try (refine cutin' (T := Hid (w5.heap[w1.heap.size]? = some (Obj.cells #[.int .i64 0, .string ByteArray.empty, .int .i64 0, .bool false, .slice none 0 0] 28))) ?_ ?_; (focus (refine Lib.hid (pk_keep hb5 ?_); (repeat (first | with_reducible exact X0_1.out | (refine pk_new ?_; (simp; done)) | with_reducible refine pk_drew ?_ | with_reducible refine pk_alloc ?_)); done)); intro X0_2; have x0_e0 := cell_of (j := 0) X0_2.out rfl; have x0_e1 := cell_of (j := 1) X0_2.out rfl; have x0_e2 := cell_of (j := 2) X0_2.out rfl; have x0_e3 := cell_of (j := 3) X0_2.out rfl; have x0_e4 := cell_of (j := 4) X0_2.out rfl; have x0_f := fun i => unfrozen_of_block X0_2.out i; have x0_z := lt_of_block X0_2.out)); (try (refine cutin' (T := Hid (w5.heap[w1.heap.size + 1]? = some (Obj.cells #[.int .i64 0, .string ByteArray.empty, .int .i64 0, .bool false, .slice none 0 0] 28))) ?_ ?_; (focus (refine Lib.hid (pk_keep hb5 ?_); (repeat (first | with_reducible exact X1_1.out | (refine pk_new ?_; (simp; done)) | with_reducible refine pk_drew ?_ | with_reducible refine pk_alloc ?_)); done)); intro X1_2; have x1_e0 := cell_of (j := 0) X1_2.out rfl; have x1_e1 := cell_of (j := 1) X1_2.out rfl; have x1_e2 := cell_of (j := 2) X1_2.out rfl; have x1_e3 := cell_of (j := 3) X1_2.out rfl; have x1_e4 := cell_of (j := 4) X1_2.out rfl; have x1_f := fun i => unfrozen_of_block X1_2.out i; have x1_z := lt_of_block X1_2.out)); (try (refine cutin' (T := Hid (w5.heap[w4.heap.size]? = some (Obj.cells #[.int .i64 0, .string ByteArray.empty, .int .i64 0, .bool false, .slice none 0 0] 28))) ?_ ?_; (focus (refine Lib.hid (pk_keep hb5 ?_); (repeat (first | (refine pk_new ?_; (simp; done)) | with_reducible refine pk_drew ?_ | with_reducible refine pk_alloc ?_)); done)); intro Y0_2; have y0_e0 := cell_of (j := 0) Y0_2.out rfl; have y0_e1 := cell_of (j := 1) Y0_2.out rfl; have y0_e2 := cell_of (j := 2) Y0_2.out rfl; have y0_e3 := cell_of (j := 3) Y0_2.out rfl; have y0_e4 := cell_of (j := 4) Y0_2.out rfl; have y0_f := fun i => unfrozen_of_block Y0_2.out i; have y0_z := lt_of_block Y0_2.out)); (try (refine cutin' (T := Hid (w5.heap[w4.heap.size + 1]? = some (Obj.cells #[.int .i64 0, .string ByteArray.empty, .int .i64 0, .bool false, .slice none 0 0] 28))) ?_ ?_; (focus (refine Lib.hid (pk_keep hb5 ?_); (repeat (first | (refine pk_new ?_; (simp; done)) | with_reducible refine pk_drew ?_ | with_reducible refine pk_alloc ?_)); done)); intro Y1_2; have y1_e0 := cell_of (j := 0) Y1_2.out rfl; have y1_e1 := cell_of (j := 1) Y1_2.out rfl; have y1_e2 := cell_of (j := 2) Y1_2.out rfl; have y1_e3 := cell_of (j := 3) Y1_2.out rfl; have y1_e4 := cell_of (j := 4) Y1_2.out rfl; have y1_f := fun i => unfrozen_of_block Y1_2.out i; have y1_z := lt_of_block Y1_2.out)); have zw2 := J2.out.1.size; have zk2 := K2.out.1.size; clear hb5)))
    all_goals
      go_wp2_with fail
      go_meet
      refine ⟨_, _, a2, a3, c2, c3, rfl, rfl, ?_, ?_, ?_, ?_, ?_⟩
      · repeat (first | (with_reducible refine stay_set ?_ (by simp only; omega) _) | with_reducible refine stay_alloc ?_ _ | with_reducible refine stay_drew ?_ | with_reducible exact K2.out)
      · (repeat (first | with_reducible exact X0_2.out | with_reducible exact X1_2.out | with_reducible exact Y0_2.out | with_reducible exact Y1_2.out | with_reducible refine pk_drew ?_ | with_reducible refine pk_put ?_ | (with_reducible refine pk_set ?_ ?_; (focus (simp only; omega))) | (refine pk_new ?_; (focus (simp; done))) | with_reducible refine pk_alloc ?_))
      · (repeat (first | with_reducible exact X0_2.out | with_reducible exact X1_2.out | with_reducible exact Y0_2.out | with_reducible exact Y1_2.out | with_reducible refine pk_drew ?_ | with_reducible refine pk_put ?_ | (with_reducible refine pk_set ?_ ?_; (focus (simp only; omega))) | (refine pk_new ?_; (focus (simp; done))) | with_reducible refine pk_alloc ?_))
      · refine subs_on R1.out (fun _ h => h) ?_
        (repeat (first | with_reducible exact ko_below (ko_refl (Nat.le_refl _)) J2.out.1 | with_reducible refine ko_drew ?_ | with_reducible refine ko_alloc ?_ _ | (refine ko_set ?_ (by first | (simp; done) | (simp; omega) | omega) _)))
      · refine subs_on R2.out (fun _ h => h) ?_
        (repeat (first | with_reducible exact ko_refl (Nat.le_refl _) | with_reducible refine ko_drew ?_ | with_reducible refine ko_alloc ?_ _ | (refine ko_set ?_ (by first | (simp; done) | (simp; omega) | omega) _)))
  case rest =>
    obtain ⟨g, h, a2, a3, c2, c3, rfl, rfl, hS, hg, hh, hs2, hs3⟩ := hcut
    rename_i wc _
    have K0 := Lib.hid (LevW.mk (S := S) (T := T) (HB1.out.trans (hS.1.mono HB1.out.size)) (pk_keep hS.1 HPQ1.out.1) (pk_keep hS.1 HPQ1.out.2) hg hh (HS1.out.bel hS.1) (HT1.out.bel hS.1) hs2 hs3)
    clear hS hg hh hs2 hs3 HS1 HT1 HPQ1 QQ
    clear p0 p1 p2 p3 p4 q0 q1 q2 q3 q4 zP zQ
    have g0 := cell_of (j := 0) K0.out.gx rfl
    have g1 := cell_of (j := 1) K0.out.gx rfl
    have g2 := cell_of (j := 2) K0.out.gx rfl
    have g3 := cell_of (j := 3) K0.out.gx rfl
    have g4 := cell_of (j := 4) K0.out.gx rfl
    have zg := lt_of_block K0.out.gx
    go_wp2_with fail
    refine (treeS_any t K0.out.sx HBD.out).mono ?_
    rintro e w2 ⟨⟨r, rfl, hr⟩, hb2⟩
    have K1 := Lib.hid (K0.out.go hb2); clear hb2 K0
    clear g0 g1 g2 g3 g4 zg
    cases r
    · go_wp2
      go_ret
      exact ⟨rfl, K1.out.bel⟩
    have HOT := Lib.hid (show Ok t from hr (by first | rfl | trivial)); clear hr
    have h0 := cell_of (j := 0) K1.out.hx rfl
    have h1 := cell_of (j := 1) K1.out.hx rfl
    have h2 := cell_of (j := 2) K1.out.hx rfl
    have h3 := cell_of (j := 3) K1.out.hx rfl
    have h4 := cell_of (j := 4) K1.out.hx rfl
    have zh := lt_of_block K1.out.hx
    go_wp2_with fail
    refine (treeS_any s K1.out.sy HBD2.out).mono ?_
    rintro e w3 ⟨⟨r, rfl, hr⟩, hb3⟩
    have K2 := Lib.hid (K1.out.go hb3); clear hb3 K1
    clear h0 h1 h2 h3 h4 zh
    cases r
    · go_wp2
      go_ret
      exact ⟨rfl, K2.out.bel⟩
    have HOS := Lib.hid (show Ok s from hr (by first | rfl | trivial)); clear hr
    obtain ⟨rx, hrx⟩ : ∃ x, rankF t = x := ⟨_, rfl⟩
    obtain ⟨ry, hry⟩ : ∃ x, rankF s = x := ⟨_, rfl⟩
    obtain ⟨mx, hmx⟩ : ∃ x, levF t = x := ⟨_, rfl⟩
    obtain ⟨my, hmy⟩ : ∃ x, levF s = x := ⟨_, rfl⟩
    have HRX := Lib.hid hrx; have HRY := Lib.hid hry; have HMX := Lib.hid hmx; have HMY := Lib.hid hmy
    clear hrx hry hmx hmy
    have g0 := cell_of (j := 0) K2.out.gx rfl
    have g1 := cell_of (j := 1) K2.out.gx rfl
    have g2 := cell_of (j := 2) K2.out.gx rfl
    have g3 := cell_of (j := 3) K2.out.gx rfl
    have g4 := cell_of (j := 4) K2.out.gx rfl
    have zg := lt_of_block K2.out.gx
    go_wp2_with fail
    refine (rank_is HRX.out HOT.out K2.out.sx).mono ?_
    rintro e w4 ⟨rfl, hb4⟩
    have K3 := Lib.hid (K2.out.go hb4); clear hb4 K2
    clear g0 g1 g2 g3 g4 zg
    by_cases hx : rx < 0
    · have dx : decide (rx < 0) = true := decide_eq_true hx
      go_wp2
      go_ret
      exact ⟨rfl, K3.out.bel⟩
    have dx : decide (rx < 0) = false := decide_eq_false hx
    have h0 := cell_of (j := 0) K3.out.hx rfl
    have h1 := cell_of (j := 1) K3.out.hx rfl
    have h2 := cell_of (j := 2) K3.out.hx rfl
    have h3 := cell_of (j := 3) K3.out.hx rfl
    have h4 := cell_of (j := 4) K3.out.hx rfl
    have zh := lt_of_block K3.out.hx
    go_wp2_with fail
    refine (rank_is HRY.out HOS.out K3.out.sy).mono ?_
    rintro e w5 ⟨rfl, hb5⟩
    have K4 := Lib.hid (K3.out.go hb5); clear hb5 K3
    clear h0 h1 h2 h3 h4 zh
    by_cases hy : ry < 0
    · have dy : decide (ry < 0) = true := decide_eq_true hy
      go_wp2
      go_ret
      exact ⟨rfl, K4.out.bel⟩
    have dy : decide (ry < 0) = false := decide_eq_false hy
    have hll := lev_lt (t := t) (s := s) (by rw [HRX.out]; omega) (by rw [HRY.out]; omega)
    rw [HRX.out, HRY.out, HMX.out, HMY.out] at hll
    have hpos : 0 < mx := by have := (lev_le t).1; rw [HMX.out] at this; omega
    obtain ⟨bp, bq, d1, d2, d3, d4⟩ := tri hll.1 hll.2
    have dp : decide (0 < mx) = true := decide_eq_true hpos
    clear hll hx hy
    have p0 := cell_of (j := 0) K4.out.pa rfl
    have p1 := cell_of (j := 1) K4.out.pa rfl
    have p2 := cell_of (j := 2) K4.out.pa rfl
    have p3 := cell_of (j := 3) K4.out.pa rfl
    have p4 := cell_of (j := 4) K4.out.pa rfl
    have zp := lt_of_block K4.out.pa
    have q0 := cell_of (j := 0) K4.out.pb rfl
    have q1 := cell_of (j := 1) K4.out.pb rfl
    have q2 := cell_of (j := 2) K4.out.pb rfl
    have q3 := cell_of (j := 3) K4.out.pb rfl
    have q4 := cell_of (j := 4) K4.out.pb rfl
    have zq := lt_of_block K4.out.pb
    go_upto_region 6 with fail
    clear dx dy
    refine wp_region_quiet_C (Stay w5) (by kernel_rfl) (by kernel_rfl) (stay_start _) ?_
    repeat (first
      | (refine wpQ_skip (by rfl) ?_; simp only [Act.put, List.setIfInBounds_toArray, List.set_cons_zero, List.set_cons_succ])
      | (refine wpQ_value (v := ?_) (by rfl) ?_ ?_; rotate_left; (intro w hw; go_simp; done); simp only [Act.put, List.setIfInBounds_toArray, List.set_cons_zero, List.set_cons_succ])
      | (refine wpQ_value (v := ?_) (by rfl) ?_ ?_; rotate_left; (intro w hw; go_simp; with_reducible rfl); simp only [Act.put, List.setIfInBounds_toArray, List.set_cons_zero, List.set_cons_succ])
      | (refine wpQ_call (f := ?_) (args := ?_) (v := ?_) (by rfl) ?_ ?_ ?_; rotate_left 3; (intro w hw; go_simp; first | with_reducible rfl | (constructor; with_reducible rfl; with_reducible rfl)); (intro w hw; first | (refine (level_is HMX.out HOT.out (K4.out.sa.bel hw.1) (bm := bm) (fun w' h' => HL.out _ (K4.out.bel.trans ((hw.1.trans (h'.mono hw.1.size)).mono K4.out.bel.size)))).mono ?_; rintro e w'' ⟨rfl, hbw⟩; constructor; with_reducible rfl; exact stay_step hw hbw) | (refine (level_is HMY.out HOS.out (K4.out.sb.bel hw.1) (bm := bm) (fun w' h' => HL.out _ (K4.out.bel.trans ((hw.1.trans (h'.mono hw.1.size)).mono K4.out.bel.size)))).mono ?_; rintro e w'' ⟨rfl, hbw⟩; constructor; with_reducible rfl; exact stay_step hw hbw)); simp only [Act.put, List.setIfInBounds_toArray, List.set_cons_zero, List.set_cons_succ]))
    refine wpQuiet_nil ?_
    intro w6 hS6
    have K5 := Lib.hid (K4.out.go hS6.1)
    clear hS6 K4
    clear p0 p1 p2 p3 p4 zp
    clear q0 q1 q2 q3 q4 zq
    have g0 := cell_of (j := 0) K5.out.gx rfl
    have g1 := cell_of (j := 1) K5.out.gx rfl
    have g2 := cell_of (j := 2) K5.out.gx rfl
    have g3 := cell_of (j := 3) K5.out.gx rfl
    have g4 := cell_of (j := 4) K5.out.gx rfl
    have zg := lt_of_block K5.out.gx
    have h0 := cell_of (j := 0) K5.out.hx rfl
    have h1 := cell_of (j := 1) K5.out.hx rfl
    have h2 := cell_of (j := 2) K5.out.hx rfl
    have h3 := cell_of (j := 3) K5.out.hx rfl
    have h4 := cell_of (j := 4) K5.out.hx rfl
    have zh := lt_of_block K5.out.hx
    cases bp <;> cases bq
    all_goals
      go_upto_region 7 with fail
      refine wp_region_quiet_C (Stay w6) (by kernel_rfl) (by kernel_rfl) (stay_start _) ?_
      repeat (first
        | (refine wpQ_skip (by rfl) ?_; simp only [Act.put, List.setIfInBounds_toArray, List.set_cons_zero, List.set_cons_succ])
        | (refine wpQ_value (v := ?_) (by rfl) ?_ ?_; rotate_left; (intro w hw; go_simp; done); simp only [Act.put, List.setIfInBounds_toArray, List.set_cons_zero, List.set_cons_succ])
        | (refine wpQ_value (v := ?_) (by rfl) ?_ ?_; rotate_left; (intro w hw; go_simp; with_reducible rfl); simp only [Act.put, List.setIfInBounds_toArray, List.set_cons_zero, List.set_cons_succ])
        | (refine wpQ_call (f := ?_) (args := ?_) (v := ?_) (by rfl) ?_ ?_ ?_; rotate_left 3; (intro w hw; go_simp; first | with_reducible rfl | (constructor; with_reducible rfl; with_reducible rfl)); (intro w hw; first | ((with_reducible refine (rank_is HRX.out HOT.out (K5.out.sx.bel hw.1)).mono ?_); rintro e w'' ⟨rfl, hbw⟩; constructor; with_reducible rfl; exact stay_step hw hbw) | ((with_reducible refine (rank_is HRY.out HOS.out (K5.out.sy.bel hw.1)).mono ?_); rintro e w'' ⟨rfl, hbw⟩; constructor; with_reducible rfl; exact stay_step hw hbw)); simp only [Act.put, List.setIfInBounds_toArray, List.set_cons_zero, List.set_cons_succ]))
      refine wpQuiet_nil ?_
      intro w7 hS7
      have hB7 := K5.out.bel.trans (hS7.1.mono K5.out.bel.size)
      clear hS7
      go_wp2
      go_ret
      exact ⟨rfl, hB7⟩
end Go.Proofs.YthppionkcfkafaaDoor
