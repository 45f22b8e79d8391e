/-
  spec.Same tells whether two trees are equal; spec.often counts; spec.Among holds of a part of a list. Conditions: the lengths of the lists.
-/
import Derived.Test.YtlgajopaokjjaaaGreatFmtBase
import Derived.Deep.QuietTactic
namespace Go.Proofs.YtlgajopaokjjaaaGreatFmt
open Go.ChangeShapes Go.WideShapes Go.ChangeAt Go.RowKit Go.Joins

open Classical in
/-- Whether two trees are equal. -/
noncomputable def sameB (s t : Tr) : Bool := decide (s = t)
theorem sameB_yes {s t : Tr} (h : s = t) : sameB s t = true := by simp [sameB, h]
theorem sameB_no {s t : Tr} (h : s ≠ t) : sameB s t = false := by simp [sameB, h]
/-- What spec.Same tells. -/
def TellsSame (t s : Tr) (e : Ending) : Prop := e = .returned (.bool (sameB t s))
theorem tells_yes {t s : Tr} (h : t = s) : TellsSame t s (.returned (.bool true)) := by unfold TellsSame; rw [sameB_yes h]
theorem tells_no {t s : Tr} (h : t ≠ s) : TellsSame t s (.returned (.bool false)) := by unfold TellsSame; rw [sameB_no h]
/-- The first j nodes below two trees are equal. -/
def SameUpto (t s : Tr) (j : Nat) : Prop := ∀ i, i < j → t.subs[i]? = s.subs[i]?
theorem sameUpto_step {t s p : Tr} {j : Nat} (h : SameUpto t s j) (hp : t.subs[j]? = some p) (hq : s.subs[j]? = some p) : SameUpto t s (j + 1) := by
  intro i hi
  by_cases e : i = j
  · subst e; rw [hp, hq]
  · exact h i (by omega)
theorem sameUpto_all {t s : Tr} (hl : t.subs.length = s.subs.length) (h : SameUpto t s t.subs.length) : t.subs = s.subs := by
  apply List.ext_getElem? fun i => ?_
  by_cases hi : i < t.subs.length
  · exact h i hi
  · rw [List.getElem?_eq_none (by omega), List.getElem?_eq_none (by omega)]
/-- spec.Same's contract at a tree. -/
def SameOk (t : Tr) : Prop := ∀ (s : Tr) (S T : Nat → Prop) (w : World) (u v : Value) (r : Bool), sameB t s = r → Subs w S t.subs u → Subs w T s.subs v → Bnd 2199023255488 t → Bnd 2199023255488 s →
    Calls Tryz.prog 7 #[.agg #[.int .i64 t.k, .string t.tx, .int .i64 t.op, .bool t.fl, u], .agg #[.int .i64 s.k, .string s.tx, .int .i64 s.op, .bool s.fl, v]] w fun e w' => e = .returned (.bool r) ∧ Below w.heap.size w w'
theorem alloc_at2 (w : World) (o : Obj) (g : Nat) (hg : g = w.heap.size) : (w.alloc o).heap[g]? = some o := by subst hg; exact heap_alloc_new w o
theorem tl_inj {s t : ByteArray} (h : s.toList = t.toList) : s = t := by
  rw [ByteArray.toList_eq, ByteArray.toList_eq] at h
  cases s; cases t
  congr
  exact Array.toList_inj.1 h
theorem ret_no {t s : Tr} {r : Bool} (h : sameB t s = r) (hn : t ≠ s) : Ending.returned (.bool false) = .returned (.bool r) := by rw [← h, sameB_no hn]
theorem ret_yes {t s : Tr} {r : Bool} (h : sameB t s = r) (hn : t = s) : Ending.returned (.bool true) = .returned (.bool r) := by rw [← h, sameB_yes hn]
set_option maxRecDepth 100000 in
set_option maxHeartbeats 8000000 in
theorem same_any (t : Tr) : SameOk t := by
  induction t using Tr.ind with
  | h t ih =>
  intro s S T w u v r hr hs hs' hbd hbd'
  obtain ⟨a, cap, rfl, hcap⟩ := hs.form
  obtain ⟨a', cap', rfl, hcap'⟩ := hs'.form
  have hW := below_alloc2 w (.cells #[.int .i64 t.k, .string t.tx, .int .i64 t.op, .bool t.fl, .slice a t.subs.length cap] 28) (.cells #[.int .i64 s.k, .string s.tx, .int .i64 s.op, .bool s.fl, .slice a' s.subs.length cap'] 28)
  have HR := Lib.hid hr; clear hr
  have H := Lib.hid (hs.bel hW); have H' := Lib.hid (hs'.bel hW); clear hs hs'
  have HI := Lib.hid ih; clear ih
  have HBD := Lib.hid hbd; have HBD' := Lib.hid hbd'; clear hbd hbd'
  have hlen : t.subs.length ≤ 2199023255488 := HBD.out.len
  have hlen' : s.subs.length ≤ 2199023255488 := HBD'.out.len
  have HB0 := Lib.hid hW; clear hW
  have HX := Lib.hid ((Below.heap_alloc (w.alloc (.cells #[.int .i64 t.k, .string t.tx, .int .i64 t.op, .bool t.fl, .slice a t.subs.length cap] 28)) (.cells #[.int .i64 s.k, .string s.tx, .int .i64 s.op, .bool s.fl, .slice a' s.subs.length cap'] 28) w.heap.size (by simp)).trans (heap_alloc_new w (.cells #[.int .i64 t.k, .string t.tx, .int .i64 t.op, .bool t.fl, .slice a t.subs.length cap] 28)))
  have HY := Lib.hid (alloc_at2 (w.alloc (.cells #[.int .i64 t.k, .string t.tx, .int .i64 t.op, .bool t.fl, .slice a t.subs.length cap] 28)) (.cells #[.int .i64 s.k, .string s.tx, .int .i64 s.op, .bool s.fl, .slice a' s.subs.length cap'] 28) (w.heap.size + 1) (by simp))
  by_cases e : t.k = s.k ∧ t.tx = s.tx ∧ t.op = s.op ∧ t.fl = s.fl ∧ t.subs.length = s.subs.length
  · obtain ⟨k, tx, op, fl, ts⟩ := t
    obtain ⟨k', tx', op', fl', ss⟩ := s
    obtain ⟨rfl, rfl, rfl, rfl, e5⟩ : k = k' ∧ tx = tx' ∧ op = op' ∧ fl = fl' ∧ ts.length = ss.length := e
    simp only [Tr.k, Tr.tx, Tr.op, Tr.fl, Tr.subs] at *
    rw [← e5] at H H' HX HY HB0 hlen' hcap' ⊢
    have HE := Lib.hid e5; clear e5
    go_enter Tryz.func7, Tryz.ntmps7
    go_wp2_with fail
    go_loopw [44] (fun i wr => ∃ j, j ≤ ts.length ∧ i = .int .i64 (j : Nat) ∧ (∀ i, i < j → ts[i]? = ss[i]?) ∧ Below (w.heap.size + 1 + 1) ((w.alloc (.cells #[.int .i64 k, .string tx, .int .i64 op, .bool fl, .slice a ts.length cap] 28)).alloc (.cells #[.int .i64 k, .string tx, .int .i64 op, .bool fl, .slice a' ts.length cap'] 28)) wr) (fun i _ => ts.length - (intOf i).toNat)
    case atStart => exact ⟨0, Nat.zero_le _, rfl, fun i hi => absurd hi (by omega), Below.refl _ _⟩
    case round =>
      obtain ⟨j, hj, rfl, hD, hB⟩ := hrel
      have HD := Lib.hid hD; clear hD
      have hB' : Below ((w.alloc (.cells #[.int .i64 k, .string tx, .int .i64 op, .bool fl, .slice a ts.length cap] 28)).alloc (.cells #[.int .i64 k, .string tx, .int .i64 op, .bool fl, .slice a' ts.length cap'] 28)).heap.size ((w.alloc (.cells #[.int .i64 k, .string tx, .int .i64 op, .bool fl, .slice a ts.length cap] 28)).alloc (.cells #[.int .i64 k, .string tx, .int .i64 op, .bool fl, .slice a' ts.length cap'] 28)) wr := hB.mono (by simp)
      have x4 : wr.cell? ⟨w.heap.size, 4, none⟩ = some (.slice a ts.length cap) := (World.cell?_of_block (a := ⟨w.heap.size, 4, none⟩) (hB.block w.heap.size (by omega))).trans (cell_of (j := 4) HX.out rfl)
      have y4 : wr.cell? ⟨w.heap.size + 1, 4, none⟩ = some (.slice a' ts.length cap') := (World.cell?_of_block (a := ⟨w.heap.size + 1, 4, none⟩) (hB.block (w.heap.size + 1) (by omega))).trans (cell_of (j := 4) HY.out rfl)
      have hHB := HB0.out.trans (hB'.mono HB0.out.size)
      by_cases hjl : j < ts.length
      · obtain ⟨p, hp⟩ : ∃ p, ts[j]? = some p := ⟨_, List.getElem?_eq_getElem hjl⟩
        obtain ⟨q, hq⟩ : ∃ q, ss[j]? = some q := ⟨_, List.getElem?_eq_getElem (by have := HE.out; omega)⟩
        obtain ⟨b, off, u, rfl, hSb, hlt, hu, c0, c1, c2, c3, c4⟩ := (H.out.bel hB').at_ hp
        have hH' := H'.out.bel hB'
        obtain ⟨b', off', u', rfl, hSb', hlt', hu', d0, d1, d2, d3, d4⟩ := hH'.at_ hq
        obtain ⟨ua, uc, rfl, huc⟩ := hu.form
        obtain ⟨ua', uc', rfl, huc'⟩ := hu'.form
        have HP := Lib.hid hp; have HQ := Lib.hid hq; clear hp hq
        have HU := Lib.hid hu; have HU' := Lib.hid hu'; clear hu hu'
        have HS := Lib.hid (HI.out p (List.mem_of_getElem? HP.out) q)
        have HB1 := Lib.hid (HBD.out.sub p (List.mem_of_getElem? HP.out))
        have HB2 := Lib.hid (HBD'.out.sub q (List.mem_of_getElem? HQ.out))
        obtain ⟨r2, hr2⟩ : ∃ r2, sameB p q = r2 := ⟨_, rfl⟩
        have HR2 := Lib.hid hr2; clear hr2
        have z1 : w.heap.size + 1 < wr.heap.size := by have := hB.size; simp at this; omega
        have z0 : w.heap.size < wr.heap.size := by omega
        have ix : (0 : Int) ≤ (j : Int) := by omega
        have ix2 : (j : Int) < (ts.length : Int) := by omega
        have HHB := Lib.hid hHB; have HBB := Lib.hid hB; clear hHB hB hB' hH'
        go_wp2_with fail
        refine wp_region_quiet_C (Stay wr) (by kernel_rfl) (by kernel_rfl) (stay_start _) ?_
        repeat (first
          | (refine wpQ_skip (by rfl) ?_; simp only [Act.put, List.setIfInBounds_toArray, List.set_cons_zero, List.set_cons_succ])
          | (refine wpQ_value (v := ?_) (by rfl) ?_ ?_; rotate_left; (intro w hw; go_simp; done); simp only [Act.put, List.setIfInBounds_toArray, List.set_cons_zero, List.set_cons_succ])
          | (refine wpQ_value (v := ?_) (by rfl) ?_ ?_; rotate_left; (intro w hw; go_simp; with_reducible rfl); simp only [Act.put, List.setIfInBounds_toArray, List.set_cons_zero, List.set_cons_succ])
          | (refine wpQ_call (f := ?_) (args := ?_) (v := ?_) (by rfl) ?_ ?_ ?_; rotate_left 3; (intro w hw; go_simp; first | with_reducible rfl | (constructor; with_reducible rfl; with_reducible rfl)); (intro w hw; first | (refine (HS.out _ _ w _ _ r2 HR2.out (HU.out.bel hw.1) (HU'.out.bel hw.1) HB1.out HB2.out).mono ?_; rintro e w'' ⟨rfl, hbw⟩; constructor; with_reducible rfl; exact stay_step hw hbw)); simp only [Act.put, List.setIfInBounds_toArray, List.set_cons_zero, List.set_cons_succ]))
        refine wpQuiet_nil ?_
        intro w1 hS1
        have hB1 := HBB.out.trans (hS1.1.mono (by have := HBB.out.size; simp at this; omega))
        have hH1 := HHB.out.trans (hS1.1.mono HHB.out.size)
        clear c0 c1 c2 c3 c4 d0 d1 d2 d3 d4 hS1 x4 y4
        cases r2
        · go_wp2
          go_ret
          refine ⟨ret_no HR.out fun h => ?_, hH1⟩
          have h1 := HP.out
          have h2 : ts = ss := by injection h
          rw [h2, HQ.out] at h1
          injection h1 with h1
          have h3 := HR2.out
          rw [sameB_yes h1.symm] at h3
          cases h3
        · go_wp2
          go_roundw
          case rel =>
            refine ⟨j + 1, by omega, by go_num, fun i hi => ?_, hB1⟩
            by_cases e : i = j
            · subst e
              rw [HP.out, HQ.out]
              congr 1
              have h3 := HR2.out
              apply Classical.byContradiction
              intro hn
              rw [sameB_no hn] at h3
              cases h3
            · exact HD.out i (by omega)
          case measure => simp [intOf]; omega
      · obtain rfl : j = ts.length := by omega
        have HD2 := Lib.hid (show ts = ss from by
          apply List.ext_getElem? fun i => ?_
          by_cases hi : i < ts.length
          · exact HD.out i hi
          · rw [List.getElem?_eq_none (by omega), List.getElem?_eq_none (by have := HE.out; omega)])
        go_wp2
        go_ret
        exact ⟨ret_yes HR.out (by rw [HD2.out]), hHB⟩
  · have HE := Lib.hid e; clear e HX HY HB0 H H'
    go_enter Tryz.func7, Tryz.ntmps7
    go_wp2_with fail
    all_goals first
      | (go_ret; exact ⟨ret_no HR.out (fun h => HE.out (by rw [h]; exact ⟨rfl, rfl, rfl, rfl, rfl⟩)), below_alloc2 _ _ _⟩)
      | (exfalso; have hz : ((t.subs.length : Int) != (s.subs.length : Int)) = false := by assumption
         exact HE.out ⟨by assumption, tl_inj (by assumption), by assumption, by assumption, by simp at hz; omega⟩)
end Go.Proofs.YtlgajopaokjjaaaGreatFmt
