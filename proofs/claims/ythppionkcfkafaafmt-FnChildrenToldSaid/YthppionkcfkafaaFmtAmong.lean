/-
  spec.often counts; spec.Among holds of a part of a list. Conditions: the lengths of the lists.
-/
import Derived.Test.YthppionkcfkafaaFmtSameT
namespace Go.Proofs.YthppionkcfkafaaFmt
open Go.ChangeShapes Go.WideShapes Go.ChangeAt Go.RowKit Go.Joins

/-- How often a tree is in a list. -/
noncomputable def cntF (l : List Tr) (t : Tr) : Nat := (l.filter fun x => sameB x t).length
theorem cnt_le (l : List Tr) (t : Tr) : cntF l t ≤ l.length := List.length_filter_le _ _
theorem cnt_snoc {l : List Tr} {t p : Tr} {j c : Nat} (hp : l[j]? = some p) {r : Bool} (hr : sameB p t = r) (hc : cntF (l.take j) t = c) : cntF (l.take (j + 1)) t = if r = true then c + 1 else c := by
  rw [take_snoc hp]
  unfold cntF at *
  rw [List.filter_append, List.length_append, hc]
  cases r <;> simp [hr]
theorem cnt_take (l : List Tr) (n : Nat) (t : Tr) : cntF (l.take n) t ≤ cntF l t := by
  unfold cntF
  exact (List.Sublist.filter _ (List.take_sublist n l)).length_le
set_option maxRecDepth 100000 in
set_option maxHeartbeats 4000000 in
theorem often_any {l : List Tr} {t : Tr} {S T : Nat → Prop} {w : World} {v u : Value} (n : Nat) (hn : cntF l t = n) (hs : Subs w S l v) (ht : Subs w T t.subs u) (hl : l.length ≤ 2199023255488) (hb : ∀ x ∈ l, Bnd 2199023255488 x) (hbt : Bnd 2199023255488 t) :
    Calls Tryf.prog 20 #[v, .agg #[.int .i64 t.k, .string t.tx, .int .i64 t.op, .bool t.fl, u]] w fun e w' => e = .returned (.int .i64 n) ∧ Below w.heap.size w w' := by
  obtain ⟨a, cap, rfl, hcap⟩ := hs.form
  obtain ⟨a', cap', rfl, hcap'⟩ := ht.form
  have hW := below_alloc1 w (.cells #[.int .i64 t.k, .string t.tx, .int .i64 t.op, .bool t.fl, .slice a' t.subs.length cap'] 28)
  have H := Lib.hid (hs.bel hW); have HT := Lib.hid (ht.bel hW); clear hs ht
  have HX := Lib.hid (heap_alloc_new w (.cells #[.int .i64 t.k, .string t.tx, .int .i64 t.op, .bool t.fl, .slice a' t.subs.length cap'] 28))
  have HN := Lib.hid hn; clear hn
  have HBL := Lib.hid hb; have HBT := Lib.hid hbt; clear hb hbt
  have HB0 := Lib.hid hW; clear hW
  go_enter Tryf.func20, Tryf.ntmps20
  go_wp2_with fail
  go_loopw [5, 10] (fun c i wr => ∃ j k, j ≤ l.length ∧ i = .int .i64 (j : Nat) ∧ c = .int .i64 (k : Nat) ∧ k ≤ j ∧ cntF (l.take j) t = k ∧ Below (w.heap.size + 1) (w.alloc (.cells #[.int .i64 t.k, .string t.tx, .int .i64 t.op, .bool t.fl, .slice a' t.subs.length cap'] 28)) wr) (fun _ i _ => l.length - (intOf i).toNat)
  case atStart => exact ⟨0, 0, Nat.zero_le _, rfl, rfl, Nat.le_refl _, rfl, Below.refl _ _⟩
  case round =>
    obtain ⟨j, k, hj, rfl, rfl, hkj, hc, hB⟩ := hrel
    have HC := Lib.hid hc; clear hc
    have hB' : Below (w.alloc (.cells #[.int .i64 t.k, .string t.tx, .int .i64 t.op, .bool t.fl, .slice a' t.subs.length cap'] 28)).heap.size (w.alloc (.cells #[.int .i64 t.k, .string t.tx, .int .i64 t.op, .bool t.fl, .slice a' t.subs.length cap'] 28)) wr := hB.mono (by simp)
    have hX := (hB.block w.heap.size (by omega)).trans HX.out
    have x0 := cell_of (j := 0) hX rfl
    have x1 := cell_of (j := 1) hX rfl
    have x2 := cell_of (j := 2) hX rfl
    have x3 := cell_of (j := 3) hX rfl
    have x4 := cell_of (j := 4) hX rfl
    have z0 : w.heap.size < wr.heap.size := heap_lt' hX
    have HHB := Lib.hid (HB0.out.trans (hB'.mono HB0.out.size))
    have HBB := Lib.hid hB
    by_cases hjl : j < l.length
    · obtain ⟨p, hp⟩ : ∃ p, l[j]? = some p := ⟨_, List.getElem?_eq_getElem hjl⟩
      obtain ⟨b, off, u, rfl, hSb, hlt, hu, c0, c1, c2, c3, c4⟩ := (H.out.bel hB').at_ hp
      obtain ⟨ua, uc, rfl, huc⟩ := hu.form
      have HP := Lib.hid hp; clear hp
      have hD := below_alloc1 wr (.cells #[.int .i64 p.k, .string p.tx, .int .i64 p.op, .bool p.fl, .slice ua p.subs.length uc] 28)
      have HU := Lib.hid (hu.bel hD)
      have HT' := Lib.hid ((HT.out.bel hB').bel hD)
      have HD := Lib.hid hD
      clear hX hB hB' hu hD
      obtain ⟨r, hr⟩ : ∃ r, sameB p t = r := ⟨_, rfl⟩
      have HR := Lib.hid hr; clear hr
      go_wp2_with fail
      refine (same_any p t _ _ _ _ _ r HR.out HU.out HT'.out (HBL.out p (List.mem_of_getElem? HP.out)) HBT.out).mono ?_
      rintro e w1 ⟨rfl, hb1⟩
      have HB1 := Lib.hid (HBB.out.trans ((HD.out.trans (hb1.mono HD.out.size)).mono (by have := HBB.out.size; simp at this; omega)))
      have HS := cnt_snoc HP.out HR.out HC.out
      clear hb1 x0 x1 x2 x3 x4 c0 c1 c2 c3 c4
      cases r
      · have HS2 := Lib.hid (show cntF (l.take (j + 1)) t = k by simpa using HS); clear HS
        go_wp2
        go_roundw
        case rel => exact ⟨j + 1, k, by omega, by go_num, rfl, by omega, HS2.out, HB1.out⟩
        case measure => simp [intOf]; omega
      · have HS2 := Lib.hid (show cntF (l.take (j + 1)) t = k + 1 by simpa using HS); clear HS
        go_wp2
        go_roundw
        case rel => exact ⟨j + 1, k + 1, by omega, by go_num, by go_num, by omega, HS2.out, HB1.out⟩
        case measure => simp [intOf]; omega
    · obtain rfl : j = l.length := by omega
      have hkn : k = n := by
        have := HC.out
        rw [List.take_length, HN.out] at this
        exact this.symm
      clear hX hB hB'
      subst hkn
      go_wp2
      go_ret
      exact ⟨rfl, HHB.out⟩
set_option maxRecDepth 100000 in
set_option maxHeartbeats 4000000 in
theorem among_any {l m : List Tr} {S T : Nat → Prop} {w : World} {v u : Value} (hle : ∀ x ∈ l, cntF l x ≤ cntF m x) (hs : Subs w S l v) (ht : Subs w T m u) (hl : l.length ≤ 2199023255488) (hm : m.length ≤ 2199023255488) (hb : ∀ x ∈ l, Bnd 2199023255488 x) (hbm : ∀ x ∈ m, Bnd 2199023255488 x) :
    Calls Tryf.prog 13 #[v, u] w fun e w' => e = .returned (.bool true) ∧ Below w.heap.size w w' := by
  obtain ⟨a, cap, rfl, hcap⟩ := hs.form
  obtain ⟨a', cap', rfl, hcap'⟩ := ht.form
  have H := Lib.hid hs; have HT := Lib.hid ht; clear hs ht
  have HLE := Lib.hid hle; clear hle
  have HBL := Lib.hid hb; have HBM := Lib.hid hbm; clear hb hbm
  go_enter Tryf.func13, Tryf.ntmps13
  go_wp2_with fail
  go_loopw [9] (fun i wr => ∃ j, j ≤ l.length ∧ i = .int .i64 (j : Nat) ∧ Below w.heap.size w wr) (fun i _ => l.length - (intOf i).toNat)
  case atStart => exact ⟨0, Nat.zero_le _, rfl, Below.refl _ _⟩
  case round =>
    obtain ⟨j, hj, rfl, hB⟩ := hrel
    by_cases hjl : j < l.length
    · obtain ⟨p, hp⟩ : ∃ p, l[j]? = some p := ⟨_, List.getElem?_eq_getElem hjl⟩
      obtain ⟨b, off, u, rfl, hSb, hlt, hu, c0, c1, c2, c3, c4⟩ := (H.out.bel hB).at_ hp
      obtain ⟨ua, uc, rfl, huc⟩ := hu.form
      have HM := Lib.hid (List.mem_of_getElem? hp); clear hp
      have hD := below_alloc1 wr (.cells #[.int .i64 p.k, .string p.tx, .int .i64 p.op, .bool p.fl, .slice ua p.subs.length uc] 28)
      have HU := Lib.hid (hu.bel hD)
      have HL := Lib.hid ((H.out.bel hB).bel hD)
      have HM2 := Lib.hid ((HT.out.bel hB).bel hD)
      have HD := Lib.hid (hB.trans (hD.mono hB.size))
      clear hu hD hB
      obtain ⟨n1, hn1⟩ : ∃ n, cntF l p = n := ⟨_, rfl⟩
      obtain ⟨n2, hn2⟩ : ∃ n, cntF m p = n := ⟨_, rfl⟩
      have hle : n1 ≤ n2 := by rw [← hn1, ← hn2]; exact HLE.out p HM.out
      have b1 : n1 ≤ 2199023255488 := by rw [← hn1]; exact Nat.le_trans (cnt_le _ _) hl
      have b2 : n2 ≤ 2199023255488 := by rw [← hn2]; exact Nat.le_trans (cnt_le _ _) hm
      have N1 := Lib.hid hn1; have N2 := Lib.hid hn2; clear hn1 hn2
      have d1 : decide (n2 < n1) = false := by simp; omega
      have d2 : decide ((n2 : Int) < (n1 : Int)) = false := by simp; omega
      have HBP := Lib.hid (HBL.out p HM.out)
      have HNL := Lib.hid (And.intro hl hm)
      go_wp2_with fail
      refine wp_region_quiet_C (Stay (wr.alloc (.cells #[.int .i64 p.k, .string p.tx, .int .i64 p.op, .bool p.fl, .slice ua p.subs.length uc] 28))) (by kernel_rfl) (by kernel_rfl) (stay_start _) ?_
      repeat (first
        | (refine wpQ_skip (by rfl) ?_; simp only [Act.put, List.setIfInBounds_toArray, List.set_cons_zero, List.set_cons_succ])
        | (refine wpQ_value (v := ?_) (by rfl) ?_ ?_; rotate_left; (intro w hw; go_simp; done); simp only [Act.put, List.setIfInBounds_toArray, List.set_cons_zero, List.set_cons_succ])
        | (refine wpQ_value (v := ?_) (by rfl) ?_ ?_; rotate_left; (intro w hw; go_simp; with_reducible rfl); simp only [Act.put, List.setIfInBounds_toArray, List.set_cons_zero, List.set_cons_succ])
        | (refine wpQ_call (f := ?_) (args := ?_) (v := ?_) (by rfl) ?_ ?_ ?_; rotate_left 3; (intro w hw; go_simp; first | with_reducible rfl | (constructor; with_reducible rfl; with_reducible rfl)); (intro w hw; first | ((with_reducible refine (often_any (w := w) n1 N1.out (HL.out.bel hw.1) (HU.out.bel hw.1) HNL.out.1 HBL.out HBP.out).mono ?_); rintro e w'' ⟨rfl, hbw⟩; constructor; with_reducible rfl; exact stay_step hw hbw) | ((with_reducible refine (often_any (w := w) n2 N2.out (HM2.out.bel hw.1) (HU.out.bel hw.1) HNL.out.2 HBM.out HBP.out).mono ?_); rintro e w'' ⟨rfl, hbw⟩; constructor; with_reducible rfl; exact stay_step hw hbw)); simp only [Act.put, List.setIfInBounds_toArray, List.set_cons_zero, List.set_cons_succ]))
      refine wpQuiet_nil ?_
      intro w1 hS1
      have hB1 := HD.out.trans (hS1.1.mono HD.out.size)
      clear c0 c1 c2 c3 c4 hS1
      go_wp2
      go_roundw
      case rel => exact ⟨j + 1, by omega, by go_num, hB1⟩
      case measure => simp [intOf]; omega
    · obtain rfl : j = l.length := by omega
      go_wp2
      go_ret
      exact ⟨rfl, hB⟩
end Go.Proofs.YthppionkcfkafaaFmt
