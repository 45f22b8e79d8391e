/-
  spec.Fits, spec.Tree: what they tell of a tree. Conditions: the lengths of its lists.
-/
import Derived.Test.YtlgajopaokjjaaaGreatFmtOwn
import Derived.Test.YtlgajopaokjjaaaGreatFmtBase
namespace Go.Proofs.YtlgajopaokjjaaaGreatFmt
open Go.ChangeShapes Go.WideShapes Go.ChangeAt Go.RowKit Go.Joins

theorem below_is (k lo hi : Int) (h : belowF k = (lo, hi)) (w : World) : Calls Tryz.prog 15 #[.int .i64 k] w fun e w' => e = .returned (.tuple #[.int .i64 lo, .int .i64 hi]) ∧ w = w' := by
  refine (below_any k w).mono ?_
  rintro e w' ⟨he, rfl⟩
  unfold TellsBelow at he
  rw [h] at he
  exact ⟨he, rfl⟩
/-- The first j nodes below a tree fit. -/
def FitsUpto (d : Nat) (t : Tr) (j : Nat) : Prop := ∀ i s, i < j → t.subs[i]? = some s → underF t.k i s.k ∧ FitsP d s
theorem fitsUpto_step {d : Nat} {t p : Tr} {j : Nat} (h : FitsUpto d t j) (hp : t.subs[j]? = some p) (h1 : underF t.k j p.k) (h2 : FitsP d p) : FitsUpto d t (j + 1) := by
  intro i s hi hs
  by_cases e : i = j
  · subst e
    obtain rfl : p = s := by rw [hp] at hs; injection hs
    exact ⟨h1, h2⟩
  · exact h i s (by omega) hs
set_option maxRecDepth 100000 in
set_option maxHeartbeats 4000000 in
theorem fits_any : ∀ (d : Nat) (t : Tr) {S : Nat → Prop} {w : World} {u : Value} (n : Int), n = d → d ≤ 100 → Subs w S t.subs u → Bnd 2199023255488 t →
    Calls Tryz.prog 10 #[.agg #[.int .i64 t.k, .string t.tx, .int .i64 t.op, .bool t.fl, u], .int .i64 n] w fun e w' => IfTells (FitsP d t) e ∧ Below w.heap.size w w' := by
  intro d
  induction d with
  | zero =>
    intro t S w u n hn _ hs hbd
    obtain rfl : n = 0 := hn
    obtain ⟨a, cap, rfl, hcap⟩ := hs.form
    obtain ⟨lo, hi, hlh⟩ : ∃ lo hi, belowF t.k = (lo, hi) := ⟨_, _, rfl⟩
    have HL := Lib.hid hlh; clear hlh
    go_enter Tryz.func10, Tryz.ntmps10
    go_wp2_with fail
    refine (below_is _ lo hi HL.out _).mono ?_
    rintro e w' ⟨rfl, rfl⟩
    go_wp2
    go_ret
    exact ⟨ifTells_no _, below_alloc1 _ _⟩
  | succ d ih =>
    intro t S w u n hn hd hs hbd
    obtain ⟨a, cap, rfl, hcap⟩ := hs.form
    obtain ⟨lo, hi, hlh⟩ : ∃ lo hi, belowF t.k = (lo, hi) := ⟨_, _, rfl⟩
    have HL := Lib.hid hlh; clear hlh
    have HN := Lib.hid hn; clear hn
    have hn1 : 1 ≤ n := by have := HN.out; omega
    have hn2 : n ≤ 100 := by have := HN.out; omega
    have dn : (n == 0) = false := by simp; omega
    have H := Lib.hid (hs.bel (below_alloc1 w (.cells #[.int .i64 t.k, .string t.tx, .int .i64 t.op, .bool t.fl, .slice a t.subs.length cap] 28))); clear hs
    have HI := Lib.hid ih; clear ih
    have HBD := Lib.hid hbd; clear hbd
    have hlen : t.subs.length ≤ 2199023255488 := HBD.out.len
    go_enter Tryz.func10, Tryz.ntmps10
    go_wp2_with fail
    refine (below_is _ lo hi HL.out _).mono ?_
    rintro e w' ⟨rfl, rfl⟩
    go_wp2_with fail
    all_goals first
      | (go_ret; exact ⟨ifTells_no _, below_alloc1 _ _⟩)
      | skip
    have h4 : (belowF t.k).1 ≤ t.subs.length ∧ t.subs.length ≤ (belowF t.k).2 := by rw [HL.out]; exact ⟨by assumption, by assumption⟩
    have HLL := Lib.hid h4; clear h4
    have h5 : t.tx.size ≤ 100 := by
      have : (t.tx.size : Int) ≤ 100 := by first | assumption | omega
      omega
    have HTX := Lib.hid h5; clear h5
    refine (own_any t (.slice a t.subs.length cap) rfl _).mono ?_
    rintro e w1 ⟨⟨r, rfl, hr⟩, hb1⟩
    have HR := Lib.hid hr; clear hr
    have hB1 := (below_alloc1 w (.cells #[.int .i64 t.k, .string t.tx, .int .i64 t.op, .bool t.fl, .slice a t.subs.length cap] 28)).trans (hb1.mono (by simp))
    have HA1 := Lib.hid ((hb1.block w.heap.size (by simp)).trans (heap_alloc_new w (.cells #[.int .i64 t.k, .string t.tx, .int .i64 t.op, .bool t.fl, .slice a t.subs.length cap] 28)))
    have H1 := Lib.hid (H.out.bel hb1)
    clear hb1
    cases r
    · go_wp2
      go_ret
      exact ⟨ifTells_no _, hB1⟩
    have x4 : w1.cell? ⟨w.heap.size, 4, none⟩ = some (.slice a t.subs.length cap) := cell_of HA1.out rfl
    have z1 := heap_lt' HA1.out
    go_wp2_with fail
    clear x4
    go_loopw [45] (fun i wr => ∃ j, j ≤ t.subs.length ∧ i = .int .i64 (j : Nat) ∧ FitsUpto d t j ∧ Below w1.heap.size w1 wr) (fun i _ => t.subs.length - (intOf i).toNat)
    case atStart => exact ⟨0, Nat.zero_le _, rfl, fun i s hi => absurd hi (by omega), Below.refl _ _⟩
    case round =>
      obtain ⟨j, hj, rfl, hD, hB⟩ := hrel
      have HD := Lib.hid hD; clear hD
      have hA := (hB.block w.heap.size z1).trans HA1.out
      have x0 : wr.cell? ⟨w.heap.size, 0, none⟩ = some (.int .i64 t.k) := cell_of hA rfl
      have z2 := heap_lt' hA
      have HA := Lib.hid hA; clear hA
      by_cases hjl : j < t.subs.length
      · obtain ⟨p, hp⟩ : ∃ p, t.subs[j]? = some p := ⟨_, List.getElem?_eq_getElem hjl⟩
        obtain ⟨b, off, u, rfl, hSb, hlt, hu, c0, c1, c2, c3, c4⟩ := (H1.out.bel hB).at_ hp
        obtain ⟨ua, uc, rfl, huc⟩ := hu.form
        have HP := Lib.hid hp; clear hp
        have hW := below_alloc1 wr (.cells #[.int .i64 p.k, .string p.tx, .int .i64 p.op, .bool p.fl, .slice ua p.subs.length uc] 28)
        have HU := Lib.hid (hu.bel hW); clear hu
        have HBP := Lib.hid (HBD.out.sub p (List.mem_of_getElem? HP.out))
        have HW := Lib.hid (hB.trans (hW.mono hB.size)); clear hW
        go_wp2_with fail
        refine (under_any t.k j p.k j rfl _).mono ?_
        rintro e w' ⟨⟨r, rfl, hr⟩, rfl⟩
        have HR2 := Lib.hid hr; clear hr
        cases r
        · go_wp2
          go_ret
          exact ⟨ifTells_no _, hB1.trans (HW.out.mono hB1.size)⟩
        go_wp2_with fail
        refine (HI.out p _ (by have := HN.out; omega) (by omega) HU.out HBP.out).mono ?_
        rintro e w4 ⟨⟨r, rfl, hr⟩, hb4⟩
        have HR3 := Lib.hid hr; clear hr
        have hB4 := HW.out.trans (hb4.mono HW.out.size)
        clear hb4
        cases r
        · go_wp2
          go_ret
          exact ⟨ifTells_no _, hB1.trans (hB4.mono hB1.size)⟩
        · go_wp2
          go_roundw
          case rel => exact ⟨j + 1, by omega, by go_num, fitsUpto_step HD.out HP.out (HR2.out (by first | rfl | trivial)) (HR3.out (by first | rfl | trivial)), hB4⟩
          case measure => simp [intOf]; omega
      · obtain rfl : j = t.subs.length := by omega
        go_wp2
        go_ret
        exact ⟨ifTells_yes ⟨HLL.out.1, HLL.out.2, ⟨HR.out (by first | rfl | trivial), HTX.out⟩, fun i s hs => HD.out i s (List.getElem?_eq_some_iff.1 hs).1 hs⟩, hB1.trans (hB.mono hB1.size)⟩
/-- spec.Tree tells only of trees of which something is stated. -/
theorem treeS_both (t : Tr) {S : Nat → Prop} {w : World} {u : Value} (hs : Subs w S t.subs u) (hbd : Bnd 2199023255488 t) :
    Calls Tryz.prog 6 #[.agg #[.int .i64 t.k, .string t.tx, .int .i64 t.op, .bool t.fl, u]] w fun e w' => IfTells (Ok t ∧ Txs t) e ∧ Below w.heap.size w w' := by
  obtain ⟨a, cap, rfl, hcap⟩ := hs.form
  have H := Lib.hid (hs.bel (below_alloc1 w (.cells #[.int .i64 t.k, .string t.tx, .int .i64 t.op, .bool t.fl, .slice a t.subs.length cap] 28))); clear hs
  have hbel := below_alloc1 w (.cells #[.int .i64 t.k, .string t.tx, .int .i64 t.op, .bool t.fl, .slice a t.subs.length cap] 28)
  by_cases e1 : t.k = 32 ∨ t.k = 37 ∨ t.k = 39
  · rcases e1 with e | e | e
    · have d1 : (t.k != 32) = false := by simp [e]
      clear e
      go_enter Tryz.func6, Tryz.ntmps6
      go_wp2_with fail
      go_ret; exact ⟨ifTells_no _, hbel⟩
    · have d1 : (t.k != 32) = true := by simp [e]
      have d2 : (t.k != 37) = false := by simp [e]
      clear e
      go_enter Tryz.func6, Tryz.ntmps6
      go_wp2_with fail
      go_ret; exact ⟨ifTells_no _, hbel⟩
    · have d1 : (t.k != 32) = true := by simp [e]
      have d2 : (t.k != 37) = true := by simp [e]
      have d3 : (t.k != 39) = false := by simp [e]
      clear e
      go_enter Tryz.func6, Tryz.ntmps6
      go_wp2_with fail
      go_ret; exact ⟨ifTells_no _, hbel⟩
  · have d1 : (t.k != 32) = true := by simp; omega
    have d2 : (t.k != 37) = true := by simp; omega
    have d3 : (t.k != 39) = true := by simp; omega
    have hne : t.k ≠ 32 ∧ t.k ≠ 37 ∧ t.k ≠ 39 := by omega
    have HE := Lib.hid hne
    clear e1 hne
    go_enter Tryz.func6, Tryz.ntmps6
    go_wp2_with fail
    refine (fits_any 8 t 8 rfl (by decide) H.out hbd).mono ?_
    rintro e w1 ⟨⟨r, rfl, hr⟩, hb1⟩
    have HR := Lib.hid hr; clear hr
    have hB1 := hbel.trans (hb1.mono hbel.size)
    go_wp2
    go_ret
    exact ⟨ifTells_of fun h => ⟨fits_ok 8 t (HR.out h) HE.out.1 HE.out.2.1 HE.out.2.2, fits_txs 8 t (HR.out h)⟩, hB1⟩
theorem treeS_any (t : Tr) {S : Nat → Prop} {w : World} {u : Value} (hs : Subs w S t.subs u) (hbd : Bnd 2199023255488 t) :
    Calls Tryz.prog 6 #[.agg #[.int .i64 t.k, .string t.tx, .int .i64 t.op, .bool t.fl, u]] w fun e w' => IfTells (Ok t) e ∧ Below w.heap.size w w' :=
  (treeS_both t hs hbd).mono fun _ _ ⟨⟨r, he, h⟩, hb⟩ => ⟨⟨r, he, fun x => (h x).1⟩, hb⟩
end Go.Proofs.YtlgajopaokjjaaaGreatFmt
