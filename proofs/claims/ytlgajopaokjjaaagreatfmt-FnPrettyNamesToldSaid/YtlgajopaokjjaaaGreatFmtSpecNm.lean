/-
  spec.change: strings that are names. Conditions: spec.Tree's.
-/
import Derived.Test.YtlgajopaokjjaaaGreatFmtSpecMap
import Derived.Test.YtlgajopaokjjaaaGreatFmtBase
import Derived.Test.YtlgajopaokjjaaaGreatFmtIsName2
import Derived.StillTailTactics
namespace Go.Proofs.YtlgajopaokjjaaaGreatFmt
open Go.ChangeShapes Go.WideShapes Go.ChangeAt Go.RowKit Go.Joins
/-- The first nodes of a row. -/
theorem Subs.take1 {w : World} {S : Nat → Prop} {a : Tr} {r : List Tr} {p : Option Addr} {n cap : Nat} (h : Subs w S (a :: r) (.slice p n cap)) : Subs w S [a] (.slice p 1 cap) := by
  cases h with
  | row _ b off cap us hl hcap hS hc hr =>
    refine .row [a] b off cap us (by simp) (by simp at hcap ⊢; omega) hS (fun i t ht => ?_) (fun i t ht => ?_)
    · cases i with
      | zero => exact hc 0 t (by simpa using ht)
      | succ i => simp at ht
    · cases i with
      | zero => exact hr 0 t (by simpa using ht)
      | succ i => simp at ht
/-- A row without its first node. -/
theorem Subs.drop1 {w : World} {S : Nat → Prop} {a : Tr} {r : List Tr} {g off n cap : Nat} (h : Subs w S (a :: r) (.slice (some ⟨g, off, .none⟩) n cap)) (h0 : 0 < r.length) : Subs w S r (.slice (some ⟨g, off + 5, .none⟩) (n - 1) (cap - 1)) := by
  cases h with
  | row _ b off cap us hl hcap hS hc hr =>
    have e : (a :: r).length - 1 = r.length := by simp
    rw [e]
    refine .row r g (off + 5) (cap - 1) (fun i => us (i + 1)) h0 (by simp at hcap ⊢; omega) hS (fun i t ht j c hj => ?_) (fun i t ht => ?_)
    · have := hc (i + 1) t (by simpa using ht) j c hj
      rwa [show off + ((i + 1) * 5 + j) = off + 5 + (i * 5 + j) by omega] at this
    · exact hr (i + 1) t (by simpa using ht)
/- GEN -/
theorem mapped_n {f : Int} (hf : ¬ f = 0) (G : Tr → Tr) {k op : Int} {tx : ByteArray} {fl : Bool} {subs : List Tr} {n : Nat} {S : Nat → Prop} {w : World} {u : Value} (hs : Subs w S subs u) (hn : subs.length = n) (hbd : subs.length ≤ 2199023255488) (ok : ∀ s ∈ subs, ChangeOk f s (G s)) :
    Calls Tryz.prog 30 #[.agg #[.int .i64 k, .string tx, .int .i64 op, .bool fl, u], .int .i64 f] w fun e w' => (∃ a' c', e = .returned (.agg #[.int .i64 k, .string tx, .int .i64 op, .bool fl, .slice a' n c']) ∧ Subs w' (fun k => w.heap.size ≤ k) (subs.map G) (.slice a' n c')) ∧ Below w.heap.size w w' := by
  subst hn
  exact mapped_un hf G hs hbd ok
theorem top2_no {t : Tr} (h : t.k ≠ 15) (h' : t.k ≠ 39) : top 2 t = t := by simp [top, h, h']
theorem top2_idx {t a b : Tr} {r : List Tr} (h : t.k = 15) (hr : t.subs = a :: b :: r) : top 2 t = if b.k = 4 ∧ nameB b.tx.data.toList = true then .mk 16 b.tx 0 false [a] else t := by
  unfold top
  rw [if_neg (fun h => absurd h.1 (by decide)), if_neg (fun h => absurd h.1 (by decide)), if_pos ⟨rfl, h⟩, hr]
theorem top2_fld {t a : Tr} {r : List Tr} (h : t.k = 39) (hr : t.subs = a :: r) : top 2 t = if nameB a.tx.data.toList = true then .mk 37 a.tx t.op t.fl r else t := by
  unfold top
  rw [if_neg (fun h => absurd h.1 (by decide)), if_neg (fun h => absurd h.1 (by decide)), if_neg (fun h' => absurd h'.2 (by omega)), if_pos ⟨rfl, h⟩, hr]
def Chg2 (t : Tr) : Prop := Bnd 2199023255488 t → Fit t → Txs t → ChangeOk 2 t (chg 2 t)
set_option maxRecDepth 100000 in
set_option maxHeartbeats 1000000 in
theorem chg2_other (t : Tr) (hbd : Bnd 2199023255488 t) (hok : Fit t) (htx : Txs t) (h15 : t.k ≠ 15) (h39 : t.k ≠ 39) (ih : ∀ s ∈ t.subs, Chg2 s) : ChangeOk 2 t (chg 2 t) := by
  intro S w u hs
  obtain ⟨a, cap, rfl, hcap⟩ := hs.form
  have d : (t.k == 15) = false := by simp [h15]
  have d' : (t.k == 39) = false := by simp [h39]
  have e : chg 2 t = .mk t.k t.tx t.op t.fl (t.subs.map (chg 2)) := by rw [chg_eq, top2_no h15 h39]
  rw [e]
  have kid : ∀ x ∈ t.subs, ChangeOk 2 x (chg 2 x) := fun x hx => ih x hx (hbd.sub x hx) (hok.sub x hx) (htx.sub x hx)
  clear e
  have hlen := hbd.len
  have hBB := below_alloc2 w (.cells #[.int .i64 t.k, .string t.tx, .int .i64 t.op, .bool t.fl, .slice a t.subs.length cap] 28) (.cells #[.int .i64 0, .string ⟨#[]⟩, .int .i64 0, .bool false, .slice none 0 0] 28)
  have MP := Lib.hid (mapped_n (w := ((w.alloc (.cells #[.int .i64 t.k, .string t.tx, .int .i64 t.op, .bool t.fl, .slice a t.subs.length cap] 28)).alloc (.cells #[.int .i64 0, .string ⟨#[]⟩, .int .i64 0, .bool false, .slice none 0 0] 28))) (f := 2) (k := t.k) (tx := t.tx) (op := t.op) (fl := t.fl) (n := t.subs.length) (by decide) (chg 2) (Subs.bel hs hBB) rfl hlen kid)
  have HZ := Lib.hid (show ((w.alloc (.cells #[.int .i64 t.k, .string t.tx, .int .i64 t.op, .bool t.fl, .slice a t.subs.length cap] 28)).alloc (.cells #[.int .i64 0, .string ⟨#[]⟩, .int .i64 0, .bool false, .slice none 0 0] 28)).heap[w.heap.size + 1]? = some (.cells #[.int .i64 0, .string ⟨#[]⟩, .int .i64 0, .bool false, .slice none 0 0] 28) from by
    have := heap_alloc_new (w.alloc (.cells #[.int .i64 t.k, .string t.tx, .int .i64 t.op, .bool t.fl, .slice a t.subs.length cap] 28)) (.cells #[.int .i64 0, .string ⟨#[]⟩, .int .i64 0, .bool false, .slice none 0 0] 28)
    rwa [show (w.alloc (.cells #[.int .i64 t.k, .string t.tx, .int .i64 t.op, .bool t.fl, .slice a t.subs.length cap] 28)).heap.size = w.heap.size + 1 from by simp] at this)
  have HB := Lib.hid hBB
  clear hs hBB kid ih hbd hok htx h15 h39
  go_enter Tryz.func14, Tryz.ntmps14
  go_wp2_with fail
  refine MP.out.mono ?_
  rintro e w4 ⟨⟨a1, c1, rfl, hs1⟩, hb1⟩
  have zz := heap_lt' HZ.out
  have hZ1 := (hb1.block (w.heap.size + 1) zz).trans HZ.out
  have HB1 := Lib.hid (HB.out.trans (hb1.mono HB.out.size))
  have HS1 := Lib.hid (hs1.mono (T := fun k => w.heap.size + 1 < k) (fun k hk _ => by omega))
  have r0 := cell_of (j := 0) hZ1 rfl
  have r1 := cell_of (j := 1) hZ1 rfl
  have r2 := cell_of (j := 2) hZ1 rfl
  have r3 := cell_of (j := 3) hZ1 rfl
  have r4 := cell_of (j := 4) hZ1 rfl
  have r5 := fun i => unfrozen_of_block hZ1 i
  have zw := heap_lt' hZ1
  have HZ1 := Lib.hid hZ1
  clear hs1 hb1 hZ1 zz
  go_wp2
  have hr6 := set5_at (a := .int .i64 t.k) (b := .string t.tx) (c := .int .i64 t.op) (d := .bool t.fl) (e := .slice a1 t.subs.length c1) HZ1.out
  have v0 := cell_of (j := 0) hr6 rfl
  have v1 := cell_of (j := 1) hr6 rfl
  have v2 := cell_of (j := 2) hr6 rfl
  have v3 := cell_of (j := 3) hr6 rfl
  have v4 := cell_of (j := 4) hr6 rfl
  refine bodyPost_ret (v := .agg #[.int .i64 t.k, .string t.tx, .int .i64 t.op, .bool t.fl, .slice a1 t.subs.length c1]) (by simp [results, Tryz.results14, go_sem, v0, v1, v2, v3, v4]) rfl ⟨⟨_, rfl, ?_⟩, below_set5 HB1.out (Nat.le_succ _)⟩
  exact (HS1.out.keep (fun k hk _ => (show w.heap.size ≤ k by omega)) (fun k hk _ => heap_set5 (g := w.heap.size + 1) (by omega)))
set_option maxRecDepth 100000 in
set_option maxHeartbeats 1000000 in
theorem idx_yes (t : Tr) (hbd : Bnd 2199023255488 t) (hok : Fit t) (htx : Txs t) (h15 : t.k = 15) (ih : ∀ s ∈ t.subs, Chg2 s) {a b : Tr} {r : List Tr} (hr : t.subs = a :: b :: r) (k4 : b.k = 4) (hnm : nameB b.tx.data.toList = true) : ChangeOk 2 t (chg 2 t) := by
  intro S w u hs
  obtain ⟨ca, cap, rfl, hcap⟩ := hs.form
  have d : (t.k == 15) = true := by simp [h15]
  have d' : (t.k == 39) = false := by simp [h15]
  have hpos := hok.here.2.1 h15
  have hs1 : t.subs[1]? = some b := by rw [hr]; rfl
  have hmem : b ∈ t.subs := by rw [hr]; simp
  obtain ⟨sb, off, us, rfl, hSb, hlt, hus, c0, c1, c2, c3, c4⟩ := hs.at_ hs1
  simp only [Nat.one_mul] at c0 c1 c2 c3 c4
  have ix : (1 : Int) < (t.subs.length : Int) := by omega
  have ix2 : ¬ ((cap : Int) < 1) := by omega
  have d2 : (b.k == 4) = true := by simp [k4]
  have e : chg 2 t = .mk 16 b.tx 0 false ([a].map (chg 2)) := by rw [chg_eq, top2_idx h15 hr, if_pos ⟨k4, hnm⟩]; rfl
  rw [e]
  have ham : a ∈ t.subs := by rw [hr]; simp
  have kid : ∀ x ∈ [a], ChangeOk 2 x (chg 2 x) := fun x hx => by
    obtain rfl : x = a := by simpa using hx
    exact ih x ham (hbd.sub x ham) (hok.sub x ham) (htx.sub x ham)
  have HR := Lib.hid hr
  have HLEN := Lib.hid hbd.len
  clear e hr ham
  have hBB := below_alloc2 w (.cells #[.int .i64 t.k, .string t.tx, .int .i64 t.op, .bool t.fl, .slice (some ⟨sb, off, none⟩) t.subs.length cap] 28) (.cells #[.int .i64 0, .string ⟨#[]⟩, .int .i64 0, .bool false, .slice none 0 0] 28)
  have HZ0 := Lib.hid (show ((w.alloc (.cells #[.int .i64 t.k, .string t.tx, .int .i64 t.op, .bool t.fl, .slice (some ⟨sb, off, none⟩) t.subs.length cap] 28)).alloc (.cells #[.int .i64 0, .string ⟨#[]⟩, .int .i64 0, .bool false, .slice none 0 0] 28)).heap[w.heap.size + 1]? = some (.cells #[.int .i64 0, .string ⟨#[]⟩, .int .i64 0, .bool false, .slice none 0 0] 28) from by
    have := heap_alloc_new (w.alloc (.cells #[.int .i64 t.k, .string t.tx, .int .i64 t.op, .bool t.fl, .slice (some ⟨sb, off, none⟩) t.subs.length cap] 28)) (.cells #[.int .i64 0, .string ⟨#[]⟩, .int .i64 0, .bool false, .slice none 0 0] 28)
    rwa [show (w.alloc (.cells #[.int .i64 t.k, .string t.tx, .int .i64 t.op, .bool t.fl, .slice (some ⟨sb, off, none⟩) t.subs.length cap] 28)).heap.size = w.heap.size + 1 from by simp] at this)
  have HX0 := Lib.hid (show ((w.alloc (.cells #[.int .i64 t.k, .string t.tx, .int .i64 t.op, .bool t.fl, .slice (some ⟨sb, off, none⟩) t.subs.length cap] 28)).alloc (.cells #[.int .i64 0, .string ⟨#[]⟩, .int .i64 0, .bool false, .slice none 0 0] 28)).heap[w.heap.size]? = some (.cells #[.int .i64 t.k, .string t.tx, .int .i64 t.op, .bool t.fl, .slice (some ⟨sb, off, none⟩) t.subs.length cap] 28) from bk_allc (heap_alloc_new w _))
  have HSW := Lib.hid ((hs.mono (T := fun k => k < w.heap.size) (fun _ _ h => h)).bel hBB)
  have HC1 := Lib.hid c1
  have HB0 := Lib.hid hBB
  have NM := Lib.hid (isName_any b.tx (by have := (htx.sub b hmem).here; omega) ((w.alloc (.cells #[.int .i64 t.k, .string t.tx, .int .i64 t.op, .bool t.fl, .slice (some ⟨sb, off, none⟩) t.subs.length cap] 28)).alloc (.cells #[.int .i64 0, .string ⟨#[]⟩, .int .i64 0, .bool false, .slice none 0 0] 28)))
  have KID := Lib.hid kid
  have HCAP := Lib.hid hcap
  have HNM := Lib.hid hnm
  clear hs hBB kid ih hbd hok htx hus hnm hs1 hmem hpos h15 k4
  go_enter Tryz.func14, Tryz.ntmps14
  go_wp2_with fail
  refine NM.out.mono ?_
  rintro e w1 ⟨he, hb1⟩
  rw [HNM.out] at he
  subst he
  have HZ1 := Lib.hid ((hb1.block (w.heap.size + 1) (heap_lt' HZ0.out)).trans HZ0.out)
  have HX := Lib.hid ((hb1.block w.heap.size (heap_lt' HX0.out)).trans HX0.out)
  have HB1 := Lib.hid (HB0.out.trans (hb1.mono HB0.out.size))
  have HS1 := Lib.hid (HSW.out.bel hb1)
  have x0 := cell_of (j := 0) HX.out rfl
  have x1 := cell_of (j := 1) HX.out rfl
  have x2 := cell_of (j := 2) HX.out rfl
  have x3 := cell_of (j := 3) HX.out rfl
  have x4 := cell_of (j := 4) HX.out rfl
  have x5 := fun i => unfrozen_of_block HX.out i
  have zx := heap_lt' HX.out
  clear c0 c1 c2 c3 c4
  have d1 := (World.cell?_of_block (w := ((w.alloc (.cells #[.int .i64 t.k, .string t.tx, .int .i64 t.op, .bool t.fl, .slice (some ⟨sb, off, none⟩) t.subs.length cap] 28)).alloc (.cells #[.int .i64 0, .string ⟨#[]⟩, .int .i64 0, .bool false, .slice none 0 0] 28))) (hb1.block sb (by simp; omega))).trans ((World.cell?_of_block (w := w) (HB0.out.block sb hlt)).trans HC1.out)
  have zs : sb < w1.heap.size := by omega
  have hsx : ¬ sb = w.heap.size := by omega
  have HK := Lib.hid (show ∀ k, k < w.heap.size → (((((w1.setCell ⟨w.heap.size, 0, none⟩ (.int .i64 16)).setCell ⟨w.heap.size, 1, none⟩ (.string b.tx)).setCell ⟨w.heap.size, 2, none⟩ (.int .i64 0)).setCell ⟨w.heap.size, 3, none⟩ (.bool false)).setCell ⟨w.heap.size, 4, none⟩ (.slice (some ⟨sb, off, none⟩) 1 cap)).heap[k]? = w1.heap[k]? from fun k hk => heap_set5 (by omega))
  have HS2 := Lib.hid (show Subs (((((w1.setCell ⟨w.heap.size, 0, none⟩ (.int .i64 16)).setCell ⟨w.heap.size, 1, none⟩ (.string b.tx)).setCell ⟨w.heap.size, 2, none⟩ (.int .i64 0)).setCell ⟨w.heap.size, 3, none⟩ (.bool false)).setCell ⟨w.heap.size, 4, none⟩ (.slice (some ⟨sb, off, none⟩) 1 cap)).drew (fun k => k < w.heap.size) [a] (.slice (some ⟨sb, off, none⟩) 1 cap) from ((show Subs w1 (fun k => k < w.heap.size) (a :: b :: r) (.slice (some ⟨sb, off, none⟩) t.subs.length cap) from by rw [← HR.out]; exact HS1.out).take1).keep (fun _ h _ => h) (fun k hk _ => HK.out k hk))
  have HZ := Lib.hid (show (((((w1.setCell ⟨w.heap.size, 0, none⟩ (.int .i64 16)).setCell ⟨w.heap.size, 1, none⟩ (.string b.tx)).setCell ⟨w.heap.size, 2, none⟩ (.int .i64 0)).setCell ⟨w.heap.size, 3, none⟩ (.bool false)).setCell ⟨w.heap.size, 4, none⟩ (.slice (some ⟨sb, off, none⟩) 1 cap)).drew.heap[w.heap.size + 1]? = some (.cells #[.int .i64 0, .string ⟨#[]⟩, .int .i64 0, .bool false, .slice none 0 0] 28) from bk_drew ((heap_set5 (g := w.heap.size) (by omega)).trans HZ1.out))
  have HB := Lib.hid (show Below w.heap.size w (((((w1.setCell ⟨w.heap.size, 0, none⟩ (.int .i64 16)).setCell ⟨w.heap.size, 1, none⟩ (.string b.tx)).setCell ⟨w.heap.size, 2, none⟩ (.int .i64 0)).setCell ⟨w.heap.size, 3, none⟩ (.bool false)).setCell ⟨w.heap.size, 4, none⟩ (.slice (some ⟨sb, off, none⟩) 1 cap)).drew from (below_set5 HB1.out (Nat.le_refl _)).drew)
  have MP := Lib.hid (mapped_n (w := (((((w1.setCell ⟨w.heap.size, 0, none⟩ (.int .i64 16)).setCell ⟨w.heap.size, 1, none⟩ (.string b.tx)).setCell ⟨w.heap.size, 2, none⟩ (.int .i64 0)).setCell ⟨w.heap.size, 3, none⟩ (.bool false)).setCell ⟨w.heap.size, 4, none⟩ (.slice (some ⟨sb, off, none⟩) 1 cap)).drew) (f := 2) (k := 16) (tx := b.tx) (op := 0) (fl := false) (n := 1) (by decide) (chg 2) HS2.out (by first | rfl | (rw [HR.out]; rfl)) (by have := HLEN.out; rw [HR.out] at this; simp only [List.length_cons, List.length_nil] at this ⊢; omega) KID.out)
  clear hb1
  go_upto_region 7 with fail
  go_region_with fail
  all_goals
    have hr7 := set5_at (a := .int .i64 16) (b := .string b.tx) (c := .int .i64 0) (d := .bool false) (e := .slice (some ⟨sb, off, none⟩) 1 cap) HX.out
    have y0 := cell_of (j := 0) hr7 rfl
    have y1 := cell_of (j := 1) hr7 rfl
    have y2 := cell_of (j := 2) hr7 rfl
    have y3 := cell_of (j := 3) hr7 rfl
    have y4 := cell_of (j := 4) hr7 rfl
    clear hr7
    go_wp2_with fail
    refine MP.out.mono ?_
    rintro e w4 ⟨⟨a1, c1, rfl, hs1⟩, hb1⟩
    have zz := heap_lt' HZ.out
    have hZ1 := (hb1.block (w.heap.size + 1) zz).trans HZ.out
    have HB1 := Lib.hid (HB.out.trans (hb1.mono HB.out.size))
    have HS1 := Lib.hid (hs1.mono (T := fun k => w.heap.size + 1 < k) (fun k hk _ => by omega))
    have r0 := cell_of (j := 0) hZ1 rfl
    have r1 := cell_of (j := 1) hZ1 rfl
    have r2 := cell_of (j := 2) hZ1 rfl
    have r3 := cell_of (j := 3) hZ1 rfl
    have r4 := cell_of (j := 4) hZ1 rfl
    have r5 := fun i => unfrozen_of_block hZ1 i
    have zw := heap_lt' hZ1
    have HZ1 := Lib.hid hZ1
    clear hs1 hb1 hZ1 zz
    go_wp2
    have hr6 := set5_at (a := .int .i64 16) (b := .string b.tx) (c := .int .i64 0) (d := .bool false) (e := .slice a1 1 c1) HZ1.out
    have v0 := cell_of (j := 0) hr6 rfl
    have v1 := cell_of (j := 1) hr6 rfl
    have v2 := cell_of (j := 2) hr6 rfl
    have v3 := cell_of (j := 3) hr6 rfl
    have v4 := cell_of (j := 4) hr6 rfl
    refine bodyPost_ret (v := .agg #[.int .i64 16, .string b.tx, .int .i64 0, .bool false, .slice a1 1 c1]) (by simp [results, Tryz.results14, go_sem, v0, v1, v2, v3, v4]) rfl ⟨⟨_, rfl, ?_⟩, below_set5 HB1.out (Nat.le_succ _)⟩
    exact (HS1.out.keep (fun k hk _ => (show w.heap.size ≤ k by omega)) (fun k hk _ => heap_set5 (g := w.heap.size + 1) (by omega)))
set_option maxRecDepth 100000 in
set_option maxHeartbeats 1000000 in
theorem idx_no (t : Tr) (hbd : Bnd 2199023255488 t) (hok : Fit t) (htx : Txs t) (h15 : t.k = 15) (ih : ∀ s ∈ t.subs, Chg2 s) {a b : Tr} {r : List Tr} (hr : t.subs = a :: b :: r) (k4 : b.k = 4) (hnm : nameB b.tx.data.toList = false) : ChangeOk 2 t (chg 2 t) := by
  intro S w u hs
  obtain ⟨ca, cap, rfl, hcap⟩ := hs.form
  have d : (t.k == 15) = true := by simp [h15]
  have d' : (t.k == 39) = false := by simp [h15]
  have hpos := hok.here.2.1 h15
  have hs1 : t.subs[1]? = some b := by rw [hr]; rfl
  have hmem : b ∈ t.subs := by rw [hr]; simp
  obtain ⟨sb, off, us, rfl, hSb, hlt, hus, c0, c1, c2, c3, c4⟩ := hs.at_ hs1
  simp only [Nat.one_mul] at c0 c1 c2 c3 c4
  have ix : (1 : Int) < (t.subs.length : Int) := by omega
  have ix2 : ¬ ((cap : Int) < 1) := by omega
  have d2 : (b.k == 4) = true := by simp [k4]
  have e : chg 2 t = .mk t.k t.tx t.op t.fl (t.subs.map (chg 2)) := by rw [chg_eq, top2_idx h15 hr, if_neg (by simp [hnm])]
  rw [e]
  have kid : ∀ x ∈ t.subs, ChangeOk 2 x (chg 2 x) := fun x hx => ih x hx (hbd.sub x hx) (hok.sub x hx) (htx.sub x hx)
  have HLEN := Lib.hid hbd.len
  clear e hr
  have hBB := below_alloc2 w (.cells #[.int .i64 t.k, .string t.tx, .int .i64 t.op, .bool t.fl, .slice (some ⟨sb, off, none⟩) t.subs.length cap] 28) (.cells #[.int .i64 0, .string ⟨#[]⟩, .int .i64 0, .bool false, .slice none 0 0] 28)
  have HZ0 := Lib.hid (show ((w.alloc (.cells #[.int .i64 t.k, .string t.tx, .int .i64 t.op, .bool t.fl, .slice (some ⟨sb, off, none⟩) t.subs.length cap] 28)).alloc (.cells #[.int .i64 0, .string ⟨#[]⟩, .int .i64 0, .bool false, .slice none 0 0] 28)).heap[w.heap.size + 1]? = some (.cells #[.int .i64 0, .string ⟨#[]⟩, .int .i64 0, .bool false, .slice none 0 0] 28) from by
    have := heap_alloc_new (w.alloc (.cells #[.int .i64 t.k, .string t.tx, .int .i64 t.op, .bool t.fl, .slice (some ⟨sb, off, none⟩) t.subs.length cap] 28)) (.cells #[.int .i64 0, .string ⟨#[]⟩, .int .i64 0, .bool false, .slice none 0 0] 28)
    rwa [show (w.alloc (.cells #[.int .i64 t.k, .string t.tx, .int .i64 t.op, .bool t.fl, .slice (some ⟨sb, off, none⟩) t.subs.length cap] 28)).heap.size = w.heap.size + 1 from by simp] at this)
  have HX0 := Lib.hid (show ((w.alloc (.cells #[.int .i64 t.k, .string t.tx, .int .i64 t.op, .bool t.fl, .slice (some ⟨sb, off, none⟩) t.subs.length cap] 28)).alloc (.cells #[.int .i64 0, .string ⟨#[]⟩, .int .i64 0, .bool false, .slice none 0 0] 28)).heap[w.heap.size]? = some (.cells #[.int .i64 t.k, .string t.tx, .int .i64 t.op, .bool t.fl, .slice (some ⟨sb, off, none⟩) t.subs.length cap] 28) from bk_allc (heap_alloc_new w _))
  have HSW := Lib.hid ((hs.mono (T := fun k => k < w.heap.size) (fun _ _ h => h)).bel hBB)
  have HC1 := Lib.hid c1
  have HB0 := Lib.hid hBB
  have NM := Lib.hid (isName_any b.tx (by have := (htx.sub b hmem).here; omega) ((w.alloc (.cells #[.int .i64 t.k, .string t.tx, .int .i64 t.op, .bool t.fl, .slice (some ⟨sb, off, none⟩) t.subs.length cap] 28)).alloc (.cells #[.int .i64 0, .string ⟨#[]⟩, .int .i64 0, .bool false, .slice none 0 0] 28)))
  have KID := Lib.hid kid
  have HCAP := Lib.hid hcap
  have HNM := Lib.hid hnm
  clear hs hBB kid ih hbd hok htx hus hnm hs1 hmem hpos h15 k4
  go_enter Tryz.func14, Tryz.ntmps14
  go_wp2_with fail
  refine NM.out.mono ?_
  rintro e w1 ⟨he, hb1⟩
  rw [HNM.out] at he
  subst he
  have HZ := Lib.hid ((hb1.block (w.heap.size + 1) (heap_lt' HZ0.out)).trans HZ0.out)
  have HX := Lib.hid ((hb1.block w.heap.size (heap_lt' HX0.out)).trans HX0.out)
  have HB := Lib.hid (HB0.out.trans (hb1.mono HB0.out.size))
  have HS1 := Lib.hid (HSW.out.bel hb1)
  have x0 := cell_of (j := 0) HX.out rfl
  have x1 := cell_of (j := 1) HX.out rfl
  have x2 := cell_of (j := 2) HX.out rfl
  have x3 := cell_of (j := 3) HX.out rfl
  have x4 := cell_of (j := 4) HX.out rfl
  have x5 := fun i => unfrozen_of_block HX.out i
  have zx := heap_lt' HX.out
  clear c0 c1 c2 c3 c4
  have MP := Lib.hid (mapped_n (w := w1) (f := 2) (k := t.k) (tx := t.tx) (op := t.op) (fl := t.fl) (n := t.subs.length) (by decide) (chg 2) HS1.out rfl HLEN.out KID.out)
  clear hb1
  go_wp2_with fail
  refine MP.out.mono ?_
  rintro e w4 ⟨⟨a1, c1, rfl, hs1⟩, hb1⟩
  have zz := heap_lt' HZ.out
  have hZ1 := (hb1.block (w.heap.size + 1) zz).trans HZ.out
  have HB1 := Lib.hid (HB.out.trans (hb1.mono HB.out.size))
  have HS1 := Lib.hid (hs1.mono (T := fun k => w.heap.size + 1 < k) (fun k hk _ => by omega))
  have r0 := cell_of (j := 0) hZ1 rfl
  have r1 := cell_of (j := 1) hZ1 rfl
  have r2 := cell_of (j := 2) hZ1 rfl
  have r3 := cell_of (j := 3) hZ1 rfl
  have r4 := cell_of (j := 4) hZ1 rfl
  have r5 := fun i => unfrozen_of_block hZ1 i
  have zw := heap_lt' hZ1
  have HZ1 := Lib.hid hZ1
  clear hs1 hb1 hZ1 zz
  go_wp2
  have hr6 := set5_at (a := .int .i64 t.k) (b := .string t.tx) (c := .int .i64 t.op) (d := .bool t.fl) (e := .slice a1 t.subs.length c1) HZ1.out
  have v0 := cell_of (j := 0) hr6 rfl
  have v1 := cell_of (j := 1) hr6 rfl
  have v2 := cell_of (j := 2) hr6 rfl
  have v3 := cell_of (j := 3) hr6 rfl
  have v4 := cell_of (j := 4) hr6 rfl
  refine bodyPost_ret (v := .agg #[.int .i64 t.k, .string t.tx, .int .i64 t.op, .bool t.fl, .slice a1 t.subs.length c1]) (by simp [results, Tryz.results14, go_sem, v0, v1, v2, v3, v4]) rfl ⟨⟨_, rfl, ?_⟩, below_set5 HB1.out (Nat.le_succ _)⟩
  exact (HS1.out.keep (fun k hk _ => (show w.heap.size ≤ k by omega)) (fun k hk _ => heap_set5 (g := w.heap.size + 1) (by omega)))
set_option maxRecDepth 100000 in
set_option maxHeartbeats 1000000 in
theorem idx_other (t : Tr) (hbd : Bnd 2199023255488 t) (hok : Fit t) (htx : Txs t) (h15 : t.k = 15) (ih : ∀ s ∈ t.subs, Chg2 s) {a b : Tr} {r : List Tr} (hr : t.subs = a :: b :: r) (k4 : b.k ≠ 4) : ChangeOk 2 t (chg 2 t) := by
  intro S w u hs
  obtain ⟨ca, cap, rfl, hcap⟩ := hs.form
  have d : (t.k == 15) = true := by simp [h15]
  have d' : (t.k == 39) = false := by simp [h15]
  have hpos := hok.here.2.1 h15
  have hs1 : t.subs[1]? = some b := by rw [hr]; rfl
  have hmem : b ∈ t.subs := by rw [hr]; simp
  obtain ⟨sb, off, us, rfl, hSb, hlt, hus, c0, c1, c2, c3, c4⟩ := hs.at_ hs1
  simp only [Nat.one_mul] at c0 c1 c2 c3 c4
  have ix : (1 : Int) < (t.subs.length : Int) := by omega
  have ix2 : ¬ ((cap : Int) < 1) := by omega
  have d2 : (b.k == 4) = false := by simp [k4]
  have e : chg 2 t = .mk t.k t.tx t.op t.fl (t.subs.map (chg 2)) := by rw [chg_eq, top2_idx h15 hr, if_neg (fun h => k4 h.1)]
  rw [e]
  have kid : ∀ x ∈ t.subs, ChangeOk 2 x (chg 2 x) := fun x hx => ih x hx (hbd.sub x hx) (hok.sub x hx) (htx.sub x hx)
  clear e hr
  have hlen := hbd.len
  have hBB := below_alloc2 w (.cells #[.int .i64 t.k, .string t.tx, .int .i64 t.op, .bool t.fl, .slice (some ⟨sb, off, none⟩) t.subs.length cap] 28) (.cells #[.int .i64 0, .string ⟨#[]⟩, .int .i64 0, .bool false, .slice none 0 0] 28)
  have MP := Lib.hid (mapped_n (w := ((w.alloc (.cells #[.int .i64 t.k, .string t.tx, .int .i64 t.op, .bool t.fl, .slice (some ⟨sb, off, none⟩) t.subs.length cap] 28)).alloc (.cells #[.int .i64 0, .string ⟨#[]⟩, .int .i64 0, .bool false, .slice none 0 0] 28))) (f := 2) (k := t.k) (tx := t.tx) (op := t.op) (fl := t.fl) (n := t.subs.length) (by decide) (chg 2) (Subs.bel hs hBB) rfl hlen kid)
  have HZ := Lib.hid (show ((w.alloc (.cells #[.int .i64 t.k, .string t.tx, .int .i64 t.op, .bool t.fl, .slice (some ⟨sb, off, none⟩) t.subs.length cap] 28)).alloc (.cells #[.int .i64 0, .string ⟨#[]⟩, .int .i64 0, .bool false, .slice none 0 0] 28)).heap[w.heap.size + 1]? = some (.cells #[.int .i64 0, .string ⟨#[]⟩, .int .i64 0, .bool false, .slice none 0 0] 28) from by
    have := heap_alloc_new (w.alloc (.cells #[.int .i64 t.k, .string t.tx, .int .i64 t.op, .bool t.fl, .slice (some ⟨sb, off, none⟩) t.subs.length cap] 28)) (.cells #[.int .i64 0, .string ⟨#[]⟩, .int .i64 0, .bool false, .slice none 0 0] 28)
    rwa [show (w.alloc (.cells #[.int .i64 t.k, .string t.tx, .int .i64 t.op, .bool t.fl, .slice (some ⟨sb, off, none⟩) t.subs.length cap] 28)).heap.size = w.heap.size + 1 from by simp] at this)
  have HB := Lib.hid hBB
  clear hs hBB kid ih hbd hok htx hus hs1 hmem hpos h15 k4
  go_enter Tryz.func14, Tryz.ntmps14
  go_wp2_with fail
  refine MP.out.mono ?_
  rintro e w4 ⟨⟨a1, c1, rfl, hs1⟩, hb1⟩
  have zz := heap_lt' HZ.out
  have hZ1 := (hb1.block (w.heap.size + 1) zz).trans HZ.out
  have HB1 := Lib.hid (HB.out.trans (hb1.mono HB.out.size))
  have HS1 := Lib.hid (hs1.mono (T := fun k => w.heap.size + 1 < k) (fun k hk _ => by omega))
  have r0 := cell_of (j := 0) hZ1 rfl
  have r1 := cell_of (j := 1) hZ1 rfl
  have r2 := cell_of (j := 2) hZ1 rfl
  have r3 := cell_of (j := 3) hZ1 rfl
  have r4 := cell_of (j := 4) hZ1 rfl
  have r5 := fun i => unfrozen_of_block hZ1 i
  have zw := heap_lt' hZ1
  have HZ1 := Lib.hid hZ1
  clear hs1 hb1 hZ1 zz
  go_wp2
  have hr6 := set5_at (a := .int .i64 t.k) (b := .string t.tx) (c := .int .i64 t.op) (d := .bool t.fl) (e := .slice a1 t.subs.length c1) HZ1.out
  have v0 := cell_of (j := 0) hr6 rfl
  have v1 := cell_of (j := 1) hr6 rfl
  have v2 := cell_of (j := 2) hr6 rfl
  have v3 := cell_of (j := 3) hr6 rfl
  have v4 := cell_of (j := 4) hr6 rfl
  refine bodyPost_ret (v := .agg #[.int .i64 t.k, .string t.tx, .int .i64 t.op, .bool t.fl, .slice a1 t.subs.length c1]) (by simp [results, Tryz.results14, go_sem, v0, v1, v2, v3, v4]) rfl ⟨⟨_, rfl, ?_⟩, below_set5 HB1.out (Nat.le_succ _)⟩
  exact (HS1.out.keep (fun k hk _ => (show w.heap.size ≤ k by omega)) (fun k hk _ => heap_set5 (g := w.heap.size + 1) (by omega)))
set_option maxRecDepth 100000 in
set_option maxHeartbeats 1000000 in
theorem fld_yes (t : Tr) (hbd : Bnd 2199023255488 t) (hok : Fit t) (htx : Txs t) (h39 : t.k = 39) (ih : ∀ s ∈ t.subs, Chg2 s) {a b : Tr} {r : List Tr} (hr : t.subs = a :: b :: r) (hnm : nameB a.tx.data.toList = true) : ChangeOk 2 t (chg 2 t) := by
  intro S w u hs
  obtain ⟨ca, cap, rfl, hcap⟩ := hs.form
  have d : (t.k == 15) = false := by simp [h39]
  have d' : (t.k == 39) = true := by simp [h39]
  have hpos := hok.here.2.2 h39
  have hs1 : t.subs[0]? = some a := by rw [hr]; rfl
  have hmem : a ∈ t.subs := by rw [hr]; simp
  obtain ⟨sb, off, us, rfl, hSb, hlt, hus, c0, c1, c2, c3, c4⟩ := hs.at_ hs1
  simp only [Nat.zero_mul, Nat.add_zero] at c0 c1 c2 c3 c4
  have ix : (0 : Int) < (t.subs.length : Int) := by omega
  have ix1 : ¬ ((t.subs.length : Int) < 1) := by omega
  have ix2 : ¬ ((cap : Int) < (t.subs.length : Int)) := by omega
  have ix3 : ¬ (cap = 1) := by omega
  have ix0 : 0 < t.subs.length := by omega
  have e : chg 2 t = .mk 37 a.tx t.op t.fl ((b :: r).map (chg 2)) := by rw [chg_eq, top2_fld h39 hr, if_pos hnm]; rfl
  rw [e]
  have kid : ∀ x ∈ b :: r, ChangeOk 2 x (chg 2 x) := fun x hx => by
    have hx' : x ∈ t.subs := by rw [hr]; exact List.mem_cons_of_mem _ hx
    exact ih x hx' (hbd.sub x hx') (hok.sub x hx') (htx.sub x hx')
  have HR := Lib.hid hr
  have HLEN := Lib.hid hbd.len
  clear e hr
  have hBB := below_alloc2 w (.cells #[.int .i64 t.k, .string t.tx, .int .i64 t.op, .bool t.fl, .slice (some ⟨sb, off, none⟩) t.subs.length cap] 28) (.cells #[.int .i64 0, .string ⟨#[]⟩, .int .i64 0, .bool false, .slice none 0 0] 28)
  have HZ0 := Lib.hid (show ((w.alloc (.cells #[.int .i64 t.k, .string t.tx, .int .i64 t.op, .bool t.fl, .slice (some ⟨sb, off, none⟩) t.subs.length cap] 28)).alloc (.cells #[.int .i64 0, .string ⟨#[]⟩, .int .i64 0, .bool false, .slice none 0 0] 28)).heap[w.heap.size + 1]? = some (.cells #[.int .i64 0, .string ⟨#[]⟩, .int .i64 0, .bool false, .slice none 0 0] 28) from by
    have := heap_alloc_new (w.alloc (.cells #[.int .i64 t.k, .string t.tx, .int .i64 t.op, .bool t.fl, .slice (some ⟨sb, off, none⟩) t.subs.length cap] 28)) (.cells #[.int .i64 0, .string ⟨#[]⟩, .int .i64 0, .bool false, .slice none 0 0] 28)
    rwa [show (w.alloc (.cells #[.int .i64 t.k, .string t.tx, .int .i64 t.op, .bool t.fl, .slice (some ⟨sb, off, none⟩) t.subs.length cap] 28)).heap.size = w.heap.size + 1 from by simp] at this)
  have HX0 := Lib.hid (show ((w.alloc (.cells #[.int .i64 t.k, .string t.tx, .int .i64 t.op, .bool t.fl, .slice (some ⟨sb, off, none⟩) t.subs.length cap] 28)).alloc (.cells #[.int .i64 0, .string ⟨#[]⟩, .int .i64 0, .bool false, .slice none 0 0] 28)).heap[w.heap.size]? = some (.cells #[.int .i64 t.k, .string t.tx, .int .i64 t.op, .bool t.fl, .slice (some ⟨sb, off, none⟩) t.subs.length cap] 28) from bk_allc (heap_alloc_new w _))
  have HSW := Lib.hid ((hs.mono (T := fun k => k < w.heap.size) (fun _ _ h => h)).bel hBB)
  have HC1 := Lib.hid c1
  have HB0 := Lib.hid hBB
  have NM := Lib.hid (isName_any a.tx (by have := (htx.sub a hmem).here; omega) ((w.alloc (.cells #[.int .i64 t.k, .string t.tx, .int .i64 t.op, .bool t.fl, .slice (some ⟨sb, off, none⟩) t.subs.length cap] 28)).alloc (.cells #[.int .i64 0, .string ⟨#[]⟩, .int .i64 0, .bool false, .slice none 0 0] 28)))
  have KID := Lib.hid kid
  have HCAP := Lib.hid hcap
  have HNM := Lib.hid hnm
  clear hs hBB kid ih hbd hok htx hus hnm hs1 hmem hpos h39
  go_enter Tryz.func14, Tryz.ntmps14
  go_wp2_with fail
  refine NM.out.mono ?_
  rintro e w1 ⟨he, hb1⟩
  rw [HNM.out] at he
  subst he
  have HZ1 := Lib.hid ((hb1.block (w.heap.size + 1) (heap_lt' HZ0.out)).trans HZ0.out)
  have HX := Lib.hid ((hb1.block w.heap.size (heap_lt' HX0.out)).trans HX0.out)
  have HB1 := Lib.hid (HB0.out.trans (hb1.mono HB0.out.size))
  have HS1 := Lib.hid (HSW.out.bel hb1)
  have x0 := cell_of (j := 0) HX.out rfl
  have x1 := cell_of (j := 1) HX.out rfl
  have x2 := cell_of (j := 2) HX.out rfl
  have x3 := cell_of (j := 3) HX.out rfl
  have x4 := cell_of (j := 4) HX.out rfl
  have x5 := fun i => unfrozen_of_block HX.out i
  have zx := heap_lt' HX.out
  clear c0 c1 c2 c3 c4
  have d1 := (World.cell?_of_block (w := ((w.alloc (.cells #[.int .i64 t.k, .string t.tx, .int .i64 t.op, .bool t.fl, .slice (some ⟨sb, off, none⟩) t.subs.length cap] 28)).alloc (.cells #[.int .i64 0, .string ⟨#[]⟩, .int .i64 0, .bool false, .slice none 0 0] 28))) (hb1.block sb (by simp; omega))).trans ((World.cell?_of_block (w := w) (HB0.out.block sb hlt)).trans HC1.out)
  have zs : sb < w1.heap.size := by omega
  have hsx : ¬ sb = w.heap.size := by omega
  have HK := Lib.hid (show ∀ k, k < w.heap.size → (((((w1.setCell ⟨w.heap.size, 0, none⟩ (.int .i64 37)).setCell ⟨w.heap.size, 1, none⟩ (.string a.tx)).setCell ⟨w.heap.size, 2, none⟩ (.int .i64 t.op)).setCell ⟨w.heap.size, 3, none⟩ (.bool t.fl)).setCell ⟨w.heap.size, 4, none⟩ (.slice (some ⟨sb, off + 5, none⟩) (t.subs.length - 1) (cap - 1))).heap[k]? = w1.heap[k]? from fun k hk => heap_set5 (by omega))
  have HS2 := Lib.hid (show Subs (((((w1.setCell ⟨w.heap.size, 0, none⟩ (.int .i64 37)).setCell ⟨w.heap.size, 1, none⟩ (.string a.tx)).setCell ⟨w.heap.size, 2, none⟩ (.int .i64 t.op)).setCell ⟨w.heap.size, 3, none⟩ (.bool t.fl)).setCell ⟨w.heap.size, 4, none⟩ (.slice (some ⟨sb, off + 5, none⟩) (t.subs.length - 1) (cap - 1))).drew (fun k => k < w.heap.size) (b :: r) (.slice (some ⟨sb, off + 5, none⟩) (t.subs.length - 1) (cap - 1)) from ((show Subs w1 (fun k => k < w.heap.size) (a :: b :: r) (.slice (some ⟨sb, off, none⟩) t.subs.length cap) from by rw [← HR.out]; exact HS1.out).drop1 (by simp)).keep (fun _ h _ => h) (fun k hk _ => HK.out k hk))
  have HZ := Lib.hid (show (((((w1.setCell ⟨w.heap.size, 0, none⟩ (.int .i64 37)).setCell ⟨w.heap.size, 1, none⟩ (.string a.tx)).setCell ⟨w.heap.size, 2, none⟩ (.int .i64 t.op)).setCell ⟨w.heap.size, 3, none⟩ (.bool t.fl)).setCell ⟨w.heap.size, 4, none⟩ (.slice (some ⟨sb, off + 5, none⟩) (t.subs.length - 1) (cap - 1))).drew.heap[w.heap.size + 1]? = some (.cells #[.int .i64 0, .string ⟨#[]⟩, .int .i64 0, .bool false, .slice none 0 0] 28) from bk_drew ((heap_set5 (g := w.heap.size) (by omega)).trans HZ1.out))
  have HB := Lib.hid (show Below w.heap.size w (((((w1.setCell ⟨w.heap.size, 0, none⟩ (.int .i64 37)).setCell ⟨w.heap.size, 1, none⟩ (.string a.tx)).setCell ⟨w.heap.size, 2, none⟩ (.int .i64 t.op)).setCell ⟨w.heap.size, 3, none⟩ (.bool t.fl)).setCell ⟨w.heap.size, 4, none⟩ (.slice (some ⟨sb, off + 5, none⟩) (t.subs.length - 1) (cap - 1))).drew from (below_set5 HB1.out (Nat.le_refl _)).drew)
  have MP := Lib.hid (mapped_n (w := (((((w1.setCell ⟨w.heap.size, 0, none⟩ (.int .i64 37)).setCell ⟨w.heap.size, 1, none⟩ (.string a.tx)).setCell ⟨w.heap.size, 2, none⟩ (.int .i64 t.op)).setCell ⟨w.heap.size, 3, none⟩ (.bool t.fl)).setCell ⟨w.heap.size, 4, none⟩ (.slice (some ⟨sb, off + 5, none⟩) (t.subs.length - 1) (cap - 1))).drew) (f := 2) (k := 37) (tx := a.tx) (op := t.op) (fl := t.fl) (n := (t.subs.length - 1)) (by decide) (chg 2) HS2.out (by first | rfl | (rw [HR.out]; rfl)) (by have := HLEN.out; rw [HR.out] at this; simp only [List.length_cons] at this ⊢; omega) KID.out)
  clear hb1
  go_upto_region 9 with fail
  refine wp_region_still_tail 13 (by kernel_rfl) (by kernel_rfl) ?_
  change wpStill _ _ w1.drew (fun a' => wpList _ _ _ _ a' w1.drew) _ _
  simp only [List.take_succ_cons, List.take_zero, List.drop_succ_cons, List.drop_zero]
  repeat (refine wpStill_step (fun K hK => ?_); go_simp; refine hK _ ?_; clear hK K)
  refine wpStill_nil ?_
  all_goals
    have hr7 := set5_at (a := .int .i64 37) (b := .string a.tx) (c := .int .i64 t.op) (d := .bool t.fl) (e := .slice (some ⟨sb, off + 5, none⟩) (t.subs.length - 1) (cap - 1)) HX.out
    have y0 := cell_of (j := 0) hr7 rfl
    have y1 := cell_of (j := 1) hr7 rfl
    have y2 := cell_of (j := 2) hr7 rfl
    have y3 := cell_of (j := 3) hr7 rfl
    have y4 := cell_of (j := 4) hr7 rfl
    clear hr7
    go_wp2_with fail
    refine MP.out.mono ?_
    rintro e w4 ⟨⟨a1, c1, rfl, hs1⟩, hb1⟩
    have zz := heap_lt' HZ.out
    have hZ1 := (hb1.block (w.heap.size + 1) zz).trans HZ.out
    have HB1 := Lib.hid (HB.out.trans (hb1.mono HB.out.size))
    have HS1 := Lib.hid (hs1.mono (T := fun k => w.heap.size + 1 < k) (fun k hk _ => by omega))
    have r0 := cell_of (j := 0) hZ1 rfl
    have r1 := cell_of (j := 1) hZ1 rfl
    have r2 := cell_of (j := 2) hZ1 rfl
    have r3 := cell_of (j := 3) hZ1 rfl
    have r4 := cell_of (j := 4) hZ1 rfl
    have r5 := fun i => unfrozen_of_block hZ1 i
    have zw := heap_lt' hZ1
    have HZ1 := Lib.hid hZ1
    clear hs1 hb1 hZ1 zz
    go_wp2
    have hr6 := set5_at (a := .int .i64 37) (b := .string a.tx) (c := .int .i64 t.op) (d := .bool t.fl) (e := .slice a1 (t.subs.length - 1) c1) HZ1.out
    have v0 := cell_of (j := 0) hr6 rfl
    have v1 := cell_of (j := 1) hr6 rfl
    have v2 := cell_of (j := 2) hr6 rfl
    have v3 := cell_of (j := 3) hr6 rfl
    have v4 := cell_of (j := 4) hr6 rfl
    refine bodyPost_ret (v := .agg #[.int .i64 37, .string a.tx, .int .i64 t.op, .bool t.fl, .slice a1 (t.subs.length - 1) c1]) (by simp [results, Tryz.results14, go_sem, v0, v1, v2, v3, v4]) rfl ⟨⟨_, rfl, ?_⟩, below_set5 HB1.out (Nat.le_succ _)⟩
    exact (HS1.out.keep (fun k hk _ => (show w.heap.size ≤ k by omega)) (fun k hk _ => heap_set5 (g := w.heap.size + 1) (by omega)))
set_option maxRecDepth 100000 in
set_option maxHeartbeats 1000000 in
theorem fld_no (t : Tr) (hbd : Bnd 2199023255488 t) (hok : Fit t) (htx : Txs t) (h39 : t.k = 39) (ih : ∀ s ∈ t.subs, Chg2 s) {a b : Tr} {r : List Tr} (hr : t.subs = a :: b :: r) (hnm : nameB a.tx.data.toList = false) : ChangeOk 2 t (chg 2 t) := by
  intro S w u hs
  obtain ⟨ca, cap, rfl, hcap⟩ := hs.form
  have d : (t.k == 15) = false := by simp [h39]
  have d' : (t.k == 39) = true := by simp [h39]
  have hpos := hok.here.2.2 h39
  have hs1 : t.subs[0]? = some a := by rw [hr]; rfl
  have hmem : a ∈ t.subs := by rw [hr]; simp
  obtain ⟨sb, off, us, rfl, hSb, hlt, hus, c0, c1, c2, c3, c4⟩ := hs.at_ hs1
  simp only [Nat.zero_mul, Nat.add_zero] at c0 c1 c2 c3 c4
  have ix : (0 : Int) < (t.subs.length : Int) := by omega
  have ix1 : ¬ ((t.subs.length : Int) < 1) := by omega
  have ix2 : ¬ ((cap : Int) < (t.subs.length : Int)) := by omega
  have ix3 : ¬ (cap = 1) := by omega
  have ix0 : 0 < t.subs.length := by omega
  have e : chg 2 t = .mk t.k t.tx t.op t.fl (t.subs.map (chg 2)) := by rw [chg_eq, top2_fld h39 hr, if_neg (by simp [hnm])]
  rw [e]
  have kid : ∀ x ∈ t.subs, ChangeOk 2 x (chg 2 x) := fun x hx => ih x hx (hbd.sub x hx) (hok.sub x hx) (htx.sub x hx)
  have HLEN := Lib.hid hbd.len
  clear e hr
  have hBB := below_alloc2 w (.cells #[.int .i64 t.k, .string t.tx, .int .i64 t.op, .bool t.fl, .slice (some ⟨sb, off, none⟩) t.subs.length cap] 28) (.cells #[.int .i64 0, .string ⟨#[]⟩, .int .i64 0, .bool false, .slice none 0 0] 28)
  have HZ0 := Lib.hid (show ((w.alloc (.cells #[.int .i64 t.k, .string t.tx, .int .i64 t.op, .bool t.fl, .slice (some ⟨sb, off, none⟩) t.subs.length cap] 28)).alloc (.cells #[.int .i64 0, .string ⟨#[]⟩, .int .i64 0, .bool false, .slice none 0 0] 28)).heap[w.heap.size + 1]? = some (.cells #[.int .i64 0, .string ⟨#[]⟩, .int .i64 0, .bool false, .slice none 0 0] 28) from by
    have := heap_alloc_new (w.alloc (.cells #[.int .i64 t.k, .string t.tx, .int .i64 t.op, .bool t.fl, .slice (some ⟨sb, off, none⟩) t.subs.length cap] 28)) (.cells #[.int .i64 0, .string ⟨#[]⟩, .int .i64 0, .bool false, .slice none 0 0] 28)
    rwa [show (w.alloc (.cells #[.int .i64 t.k, .string t.tx, .int .i64 t.op, .bool t.fl, .slice (some ⟨sb, off, none⟩) t.subs.length cap] 28)).heap.size = w.heap.size + 1 from by simp] at this)
  have HX0 := Lib.hid (show ((w.alloc (.cells #[.int .i64 t.k, .string t.tx, .int .i64 t.op, .bool t.fl, .slice (some ⟨sb, off, none⟩) t.subs.length cap] 28)).alloc (.cells #[.int .i64 0, .string ⟨#[]⟩, .int .i64 0, .bool false, .slice none 0 0] 28)).heap[w.heap.size]? = some (.cells #[.int .i64 t.k, .string t.tx, .int .i64 t.op, .bool t.fl, .slice (some ⟨sb, off, none⟩) t.subs.length cap] 28) from bk_allc (heap_alloc_new w _))
  have HSW := Lib.hid ((hs.mono (T := fun k => k < w.heap.size) (fun _ _ h => h)).bel hBB)
  have HC1 := Lib.hid c1
  have HB0 := Lib.hid hBB
  have NM := Lib.hid (isName_any a.tx (by have := (htx.sub a hmem).here; omega) ((w.alloc (.cells #[.int .i64 t.k, .string t.tx, .int .i64 t.op, .bool t.fl, .slice (some ⟨sb, off, none⟩) t.subs.length cap] 28)).alloc (.cells #[.int .i64 0, .string ⟨#[]⟩, .int .i64 0, .bool false, .slice none 0 0] 28)))
  have KID := Lib.hid kid
  have HCAP := Lib.hid hcap
  have HNM := Lib.hid hnm
  clear hs hBB kid ih hbd hok htx hus hnm hs1 hmem hpos h39
  go_enter Tryz.func14, Tryz.ntmps14
  go_wp2_with fail
  refine NM.out.mono ?_
  rintro e w1 ⟨he, hb1⟩
  rw [HNM.out] at he
  subst he
  have HZ := Lib.hid ((hb1.block (w.heap.size + 1) (heap_lt' HZ0.out)).trans HZ0.out)
  have HX := Lib.hid ((hb1.block w.heap.size (heap_lt' HX0.out)).trans HX0.out)
  have HB := Lib.hid (HB0.out.trans (hb1.mono HB0.out.size))
  have HS1 := Lib.hid (HSW.out.bel hb1)
  have x0 := cell_of (j := 0) HX.out rfl
  have x1 := cell_of (j := 1) HX.out rfl
  have x2 := cell_of (j := 2) HX.out rfl
  have x3 := cell_of (j := 3) HX.out rfl
  have x4 := cell_of (j := 4) HX.out rfl
  have x5 := fun i => unfrozen_of_block HX.out i
  have zx := heap_lt' HX.out
  clear c0 c1 c2 c3 c4
  have MP := Lib.hid (mapped_n (w := w1) (f := 2) (k := t.k) (tx := t.tx) (op := t.op) (fl := t.fl) (n := t.subs.length) (by decide) (chg 2) HS1.out rfl HLEN.out KID.out)
  clear hb1
  go_wp2_with fail
  refine MP.out.mono ?_
  rintro e w4 ⟨⟨a1, c1, rfl, hs1⟩, hb1⟩
  have zz := heap_lt' HZ.out
  have hZ1 := (hb1.block (w.heap.size + 1) zz).trans HZ.out
  have HB1 := Lib.hid (HB.out.trans (hb1.mono HB.out.size))
  have HS1 := Lib.hid (hs1.mono (T := fun k => w.heap.size + 1 < k) (fun k hk _ => by omega))
  have r0 := cell_of (j := 0) hZ1 rfl
  have r1 := cell_of (j := 1) hZ1 rfl
  have r2 := cell_of (j := 2) hZ1 rfl
  have r3 := cell_of (j := 3) hZ1 rfl
  have r4 := cell_of (j := 4) hZ1 rfl
  have r5 := fun i => unfrozen_of_block hZ1 i
  have zw := heap_lt' hZ1
  have HZ1 := Lib.hid hZ1
  clear hs1 hb1 hZ1 zz
  go_wp2
  have hr6 := set5_at (a := .int .i64 t.k) (b := .string t.tx) (c := .int .i64 t.op) (d := .bool t.fl) (e := .slice a1 t.subs.length c1) HZ1.out
  have v0 := cell_of (j := 0) hr6 rfl
  have v1 := cell_of (j := 1) hr6 rfl
  have v2 := cell_of (j := 2) hr6 rfl
  have v3 := cell_of (j := 3) hr6 rfl
  have v4 := cell_of (j := 4) hr6 rfl
  refine bodyPost_ret (v := .agg #[.int .i64 t.k, .string t.tx, .int .i64 t.op, .bool t.fl, .slice a1 t.subs.length c1]) (by simp [results, Tryz.results14, go_sem, v0, v1, v2, v3, v4]) rfl ⟨⟨_, rfl, ?_⟩, below_set5 HB1.out (Nat.le_succ _)⟩
  exact (HS1.out.keep (fun k hk _ => (show w.heap.size ≤ k by omega)) (fun k hk _ => heap_set5 (g := w.heap.size + 1) (by omega)))
theorem two_of {t : Tr} (h : 1 < t.subs.length) : ∃ a b r, t.subs = a :: b :: r := by
  match hl : t.subs, h with
  | a :: b :: r, _ => exact ⟨a, b, r, rfl⟩
theorem chg2_index (t : Tr) (hbd : Bnd 2199023255488 t) (hok : Fit t) (htx : Txs t) (h15 : t.k = 15) (ih : ∀ s ∈ t.subs, Chg2 s) : ChangeOk 2 t (chg 2 t) := by
  obtain ⟨a, b, r, hr⟩ := two_of (hok.here.2.1 h15)
  by_cases k4 : b.k = 4
  · cases hnm : nameB b.tx.data.toList with
    | true => exact idx_yes t hbd hok htx h15 ih hr k4 hnm
    | false => exact idx_no t hbd hok htx h15 ih hr k4 hnm
  · exact idx_other t hbd hok htx h15 ih hr k4
theorem chg2_field (t : Tr) (hbd : Bnd 2199023255488 t) (hok : Fit t) (htx : Txs t) (h39 : t.k = 39) (ih : ∀ s ∈ t.subs, Chg2 s) : ChangeOk 2 t (chg 2 t) := by
  obtain ⟨a, b, r, hr⟩ := two_of (hok.here.2.2 h39)
  cases hnm : nameB a.tx.data.toList with
  | true => exact fld_yes t hbd hok htx h39 ih hr hnm
  | false => exact fld_no t hbd hok htx h39 ih hr hnm
theorem chg2_any (t : Tr) (hbd : Bnd 2199023255488 t) (hok : Fit t) (htx : Txs t) : ChangeOk 2 t (chg 2 t) := by
  have key : ∀ t : Tr, Chg2 t := fun t => by
    induction t using Tr.ind with
    | h t ih =>
      intro hb ho hx
      by_cases h15 : t.k = 15
      · exact chg2_index t hb ho hx h15 ih
      · by_cases h39 : t.k = 39
        · exact chg2_field t hb ho hx h39 ih
        · exact chg2_other t hb ho hx h15 h39 ih
  exact key t hbd hok htx
end Go.Proofs.YtlgajopaokjjaaaGreatFmt
