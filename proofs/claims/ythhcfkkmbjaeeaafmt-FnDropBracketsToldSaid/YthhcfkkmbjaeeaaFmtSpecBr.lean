/-
  spec.change: brackets around brackets. Conditions: spec.Tree's.
-/
import Derived.Test.YthhcfkkmbjaeeaaFmtSpecMap
import Derived.Test.YthhcfkkmbjaeeaaFmtFit
namespace Go.Proofs.YthhcfkkmbjaeeaaFmt
open Go.ChangeShapes Go.WideShapes Go.ChangeAt Go.RowKit Go.Joins
theorem top1_no {t : Tr} (h : t.k ≠ 28) : top 1 t = t := by simp [top, h]
set_option maxRecDepth 100000 in
set_option maxHeartbeats 1000000 in
theorem chg1_step (t : Tr) (hbd : Bnd 2199023255488 t) (hok : Fit t) (ih : ∀ s, s.size < t.size → Bnd 2199023255488 s → Fit s → ChangeOk 1 s (chg 1 s)) : ChangeOk 1 t (chg 1 t) := by
  intro S w u hs
  obtain ⟨a, cap, rfl, hcap⟩ := hs.form
  by_cases h28 : t.k = 28
  · have hpos := hok.here.1 h28
    obtain ⟨s, hs0⟩ : ∃ s, t.subs[0]? = some s := ⟨_, List.getElem?_eq_getElem hpos⟩
    have hmem := List.mem_of_getElem? hs0
    obtain ⟨r, hr⟩ : ∃ r, t.subs = s :: r := by
      cases hl : t.subs with
      | nil => rw [hl] at hs0; simp at hs0
      | cons y ys => rw [hl] at hs0; simp at hs0; exact ⟨ys, by rw [hs0]⟩
    obtain ⟨sb, off, us, rfl, hSb, hlt, hus, c0, c1, c2, c3, c4⟩ := hs.at_ hs0
    obtain ⟨ua, uc, rfl, huc⟩ := hus.form
    have d : (t.k == 28) = true := by simp [h28]
    have ix : (0 : Int) < (t.subs.length : Int) := by omega
    simp only [Nat.zero_mul, Nat.add_zero] at c0 c1 c2 c3 c4
    by_cases k28 : s.k = 28
    · have d2 : (s.k == 28) = true := by simp [k28]
      have e : chg 1 t = .mk s.k s.tx s.op s.fl (s.subs.map (chg 1)) := by
        rw [chg_eq]
        have e : top 1 t = s := by
          unfold top
          rw [if_neg (by omega), if_pos ⟨rfl, h28⟩, hr]
          simp [k28]
        rw [e]
      rw [e]
      have kid : ∀ x ∈ s.subs, ChangeOk 1 x (chg 1 x) := fun x hx => ih x (by have := Tr.size_sub hmem; have := Tr.size_sub hx; omega) ((hbd.sub s hmem).sub x hx) ((hok.sub s hmem).sub x hx)
      have hlen := (hbd.sub s hmem).len
      clear e hr
      have hBB := below_alloc2 w (.cells #[.int .i64 s.k, .string s.tx, .int .i64 s.op, .bool s.fl, .slice ua s.subs.length uc] 28) (.cells #[.int .i64 0, .string ⟨#[]⟩, .int .i64 0, .bool false, .slice none 0 0] 28)
      have MP := Lib.hid (mapped_un (f := 1) (k := s.k) (tx := s.tx) (op := s.op) (fl := s.fl) (by decide) (chg 1) (Subs.bel hus hBB) hlen kid)
      have HZ := Lib.hid (show ((w.alloc (.cells #[.int .i64 s.k, .string s.tx, .int .i64 s.op, .bool s.fl, .slice ua s.subs.length uc] 28)).alloc (.cells #[.int .i64 0, .string ⟨#[]⟩, .int .i64 0, .bool false, .slice none 0 0] 28)).heap[w.heap.size + 1]? = some (.cells #[.int .i64 0, .string ⟨#[]⟩, .int .i64 0, .bool false, .slice none 0 0] 28) from by
        have := heap_alloc_new (w.alloc (.cells #[.int .i64 s.k, .string s.tx, .int .i64 s.op, .bool s.fl, .slice ua s.subs.length uc] 28)) (.cells #[.int .i64 0, .string ⟨#[]⟩, .int .i64 0, .bool false, .slice none 0 0] 28)
        rwa [show (w.alloc (.cells #[.int .i64 s.k, .string s.tx, .int .i64 s.op, .bool s.fl, .slice ua s.subs.length uc] 28)).heap.size = w.heap.size + 1 from by simp] at this)
      have HB := Lib.hid hBB
      clear hs hus hBB kid ih hbd hok h28 k28
      go_enter Tryf.func15, Tryf.ntmps15
      go_wp2_with fail
      refine MP.out.mono ?_
      rintro e w1 ⟨⟨a1, c1, rfl, hs1⟩, hb1⟩
      have hZ1 := (hb1.block (w.heap.size + 1) (by simp)).trans HZ.out
      have HB1 := Lib.hid (HB.out.trans (hb1.mono HB.out.size))
      have HS1 := Lib.hid (hs1.mono (T := fun k => w.heap.size + 1 < k) (fun k hk _ => by simp at hk; omega))
      have r0 := cell_of (j := 0) hZ1 rfl
      have r1 := cell_of (j := 1) hZ1 rfl
      have r2 := cell_of (j := 2) hZ1 rfl
      have r3 := cell_of (j := 3) hZ1 rfl
      have r4 := cell_of (j := 4) hZ1 rfl
      have r5 := fun i => unfrozen_of_block hZ1 i
      have zw := heap_lt' hZ1
      have HZ1 := Lib.hid hZ1
      clear hs1 hb1 hZ1
      go_wp2
      have hr6 := set5_at (a := .int .i64 s.k) (b := .string s.tx) (c := .int .i64 s.op) (d := .bool s.fl) (e := .slice a1 s.subs.length c1) HZ1.out
      have v0 := cell_of (j := 0) hr6 rfl
      have v1 := cell_of (j := 1) hr6 rfl
      have v2 := cell_of (j := 2) hr6 rfl
      have v3 := cell_of (j := 3) hr6 rfl
      have v4 := cell_of (j := 4) hr6 rfl
      refine bodyPost_ret (v := .agg #[.int .i64 s.k, .string s.tx, .int .i64 s.op, .bool s.fl, .slice a1 s.subs.length c1]) (by simp [results, Tryf.results15, go_sem, v0, v1, v2, v3, v4]) rfl ⟨⟨_, rfl, ?_⟩, below_set5 HB1.out (Nat.le_succ _)⟩
      exact (HS1.out.keep (fun k hk _ => (show w.heap.size ≤ k by omega)) (fun k hk _ => heap_set5 (g := w.heap.size + 1) (by omega)))
    · have d2 : (s.k == 28) = false := by simp [k28]
      have e : chg 1 t = .mk t.k t.tx t.op t.fl (t.subs.map (chg 1)) := by
        rw [chg_eq]
        have e : top 1 t = t := by
          unfold top
          rw [if_neg (by omega), if_pos ⟨rfl, h28⟩, hr]
          simp [k28]
        rw [e]
      rw [e]
      have kid : ∀ x ∈ t.subs, ChangeOk 1 x (chg 1 x) := fun x hx => ih x (Tr.size_sub hx) (hbd.sub x hx) (hok.sub x hx)
      have hlen := hbd.len
      clear e hr
      have hBB := below_alloc2 w (.cells #[.int .i64 t.k, .string t.tx, .int .i64 t.op, .bool t.fl, .slice (some ⟨sb, off, none⟩) t.subs.length cap] 28) (.cells #[.int .i64 0, .string ⟨#[]⟩, .int .i64 0, .bool false, .slice none 0 0] 28)
      have MP := Lib.hid (mapped_un (f := 1) (k := t.k) (tx := t.tx) (op := t.op) (fl := t.fl) (by decide) (chg 1) (Subs.bel hs hBB) hlen kid)
      have HZ := Lib.hid (show ((w.alloc (.cells #[.int .i64 t.k, .string t.tx, .int .i64 t.op, .bool t.fl, .slice (some ⟨sb, off, none⟩) t.subs.length cap] 28)).alloc (.cells #[.int .i64 0, .string ⟨#[]⟩, .int .i64 0, .bool false, .slice none 0 0] 28)).heap[w.heap.size + 1]? = some (.cells #[.int .i64 0, .string ⟨#[]⟩, .int .i64 0, .bool false, .slice none 0 0] 28) from by
        have := heap_alloc_new (w.alloc (.cells #[.int .i64 t.k, .string t.tx, .int .i64 t.op, .bool t.fl, .slice (some ⟨sb, off, none⟩) t.subs.length cap] 28)) (.cells #[.int .i64 0, .string ⟨#[]⟩, .int .i64 0, .bool false, .slice none 0 0] 28)
        rwa [show (w.alloc (.cells #[.int .i64 t.k, .string t.tx, .int .i64 t.op, .bool t.fl, .slice (some ⟨sb, off, none⟩) t.subs.length cap] 28)).heap.size = w.heap.size + 1 from by simp] at this)
      have HB := Lib.hid hBB
      clear hs hus hBB kid ih hbd hok h28 k28
      go_enter Tryf.func15, Tryf.ntmps15
      go_wp2_with fail
      refine MP.out.mono ?_
      rintro e w1 ⟨⟨a1, c1, rfl, hs1⟩, hb1⟩
      have hZ1 := (hb1.block (w.heap.size + 1) (by simp)).trans HZ.out
      have HB1 := Lib.hid (HB.out.trans (hb1.mono HB.out.size))
      have HS1 := Lib.hid (hs1.mono (T := fun k => w.heap.size + 1 < k) (fun k hk _ => by simp at hk; omega))
      have r0 := cell_of (j := 0) hZ1 rfl
      have r1 := cell_of (j := 1) hZ1 rfl
      have r2 := cell_of (j := 2) hZ1 rfl
      have r3 := cell_of (j := 3) hZ1 rfl
      have r4 := cell_of (j := 4) hZ1 rfl
      have r5 := fun i => unfrozen_of_block hZ1 i
      have zw := heap_lt' hZ1
      have HZ1 := Lib.hid hZ1
      clear hs1 hb1 hZ1
      go_wp2
      have hr6 := set5_at (a := .int .i64 t.k) (b := .string t.tx) (c := .int .i64 t.op) (d := .bool t.fl) (e := .slice a1 t.subs.length c1) HZ1.out
      have v0 := cell_of (j := 0) hr6 rfl
      have v1 := cell_of (j := 1) hr6 rfl
      have v2 := cell_of (j := 2) hr6 rfl
      have v3 := cell_of (j := 3) hr6 rfl
      have v4 := cell_of (j := 4) hr6 rfl
      refine bodyPost_ret (v := .agg #[.int .i64 t.k, .string t.tx, .int .i64 t.op, .bool t.fl, .slice a1 t.subs.length c1]) (by simp [results, Tryf.results15, go_sem, v0, v1, v2, v3, v4]) rfl ⟨⟨_, rfl, ?_⟩, below_set5 HB1.out (Nat.le_succ _)⟩
      exact (HS1.out.keep (fun k hk _ => (show w.heap.size ≤ k by omega)) (fun k hk _ => heap_set5 (g := w.heap.size + 1) (by omega)))
  · have d : (t.k == 28) = false := by simp [h28]
    have e : chg 1 t = .mk t.k t.tx t.op t.fl (t.subs.map (chg 1)) := by rw [chg_eq, top1_no h28]
    rw [e]
    have kid : ∀ x ∈ t.subs, ChangeOk 1 x (chg 1 x) := fun x hx => ih x (Tr.size_sub hx) (hbd.sub x hx) (hok.sub x hx)
    have hlen := hbd.len
    clear e
    have hBB := below_alloc2 w (.cells #[.int .i64 t.k, .string t.tx, .int .i64 t.op, .bool t.fl, .slice a t.subs.length cap] 28) (.cells #[.int .i64 0, .string ⟨#[]⟩, .int .i64 0, .bool false, .slice none 0 0] 28)
    have MP := Lib.hid (mapped_un (f := 1) (k := t.k) (tx := t.tx) (op := t.op) (fl := t.fl) (by decide) (chg 1) (Subs.bel hs hBB) hlen kid)
    have HZ := Lib.hid (show ((w.alloc (.cells #[.int .i64 t.k, .string t.tx, .int .i64 t.op, .bool t.fl, .slice a t.subs.length cap] 28)).alloc (.cells #[.int .i64 0, .string ⟨#[]⟩, .int .i64 0, .bool false, .slice none 0 0] 28)).heap[w.heap.size + 1]? = some (.cells #[.int .i64 0, .string ⟨#[]⟩, .int .i64 0, .bool false, .slice none 0 0] 28) from by
      have := heap_alloc_new (w.alloc (.cells #[.int .i64 t.k, .string t.tx, .int .i64 t.op, .bool t.fl, .slice a t.subs.length cap] 28)) (.cells #[.int .i64 0, .string ⟨#[]⟩, .int .i64 0, .bool false, .slice none 0 0] 28)
      rwa [show (w.alloc (.cells #[.int .i64 t.k, .string t.tx, .int .i64 t.op, .bool t.fl, .slice a t.subs.length cap] 28)).heap.size = w.heap.size + 1 from by simp] at this)
    have HB := Lib.hid hBB
    clear hs hBB kid ih hbd hok h28
    go_enter Tryf.func15, Tryf.ntmps15
    go_wp2_with fail
    refine MP.out.mono ?_
    rintro e w1 ⟨⟨a1, c1, rfl, hs1⟩, hb1⟩
    have hZ1 := (hb1.block (w.heap.size + 1) (by simp)).trans HZ.out
    have HB1 := Lib.hid (HB.out.trans (hb1.mono HB.out.size))
    have HS1 := Lib.hid (hs1.mono (T := fun k => w.heap.size + 1 < k) (fun k hk _ => by simp at hk; omega))
    have r0 := cell_of (j := 0) hZ1 rfl
    have r1 := cell_of (j := 1) hZ1 rfl
    have r2 := cell_of (j := 2) hZ1 rfl
    have r3 := cell_of (j := 3) hZ1 rfl
    have r4 := cell_of (j := 4) hZ1 rfl
    have r5 := fun i => unfrozen_of_block hZ1 i
    have zw := heap_lt' hZ1
    have HZ1 := Lib.hid hZ1
    clear hs1 hb1 hZ1
    go_wp2
    have hr6 := set5_at (a := .int .i64 t.k) (b := .string t.tx) (c := .int .i64 t.op) (d := .bool t.fl) (e := .slice a1 t.subs.length c1) HZ1.out
    have v0 := cell_of (j := 0) hr6 rfl
    have v1 := cell_of (j := 1) hr6 rfl
    have v2 := cell_of (j := 2) hr6 rfl
    have v3 := cell_of (j := 3) hr6 rfl
    have v4 := cell_of (j := 4) hr6 rfl
    refine bodyPost_ret (v := .agg #[.int .i64 t.k, .string t.tx, .int .i64 t.op, .bool t.fl, .slice a1 t.subs.length c1]) (by simp [results, Tryf.results15, go_sem, v0, v1, v2, v3, v4]) rfl ⟨⟨_, rfl, ?_⟩, below_set5 HB1.out (Nat.le_succ _)⟩
    exact (HS1.out.keep (fun k hk _ => (show w.heap.size ≤ k by omega)) (fun k hk _ => heap_set5 (g := w.heap.size + 1) (by omega)))
theorem chg1_any (t : Tr) (hbd : Bnd 2199023255488 t) (hok : Fit t) : ChangeOk 1 t (chg 1 t) := by
  have key : ∀ (n : Nat) (t : Tr), t.size ≤ n → Bnd 2199023255488 t → Fit t → ChangeOk 1 t (chg 1 t) := by
    intro n
    induction n with
    | zero =>
      intro t hn
      obtain ⟨k, tx, op, fl, subs⟩ := t
      rw [Tr.size] at hn
      omega
    | succ n ih => exact fun t hn hb ho => chg1_step t hb ho (fun s hs => ih s (by omega))
  exact key t.size t (Nat.le_refl _) hbd hok
end Go.Proofs.YthhcfkkmbjaeeaaFmt
