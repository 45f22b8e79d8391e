/-
  FnOpLevels: operators bind as tight as the description says. The map of the precedences holds what the program's text lays in it (tied).
-/
import Derived.Test.YtbfigfpaphajgaaDoorLevel
namespace Go.Proofs.YtbfigfpaphajgaaDoor
open Go.ChangeShapes Go.WideShapes Go.ChangeAt Go.RowKit Go.Joins Go.WideElems Go.Maps

theorem ops_any (w : World) : Calls Tryd.prog 6 #[] w fun e w' => e = .returned (.slice (some ⟨w.heap.size, 0, none⟩) 19 19) ∧ Below w.heap.size w w' := by
  go_enter Tryd.func6, Tryd.ntmps6
  go_wp2
  go_ret
  exact ⟨rfl, below_alloc1 _ _⟩
theorem thr_cell (j : Nat) (hj : j < 9) : ∃ x : Int, (#[Value.int .i64 3, .int .i64 5, .int .i64 7, .int .i64 12, .int .i64 14, .int .i64 15, .int .i64 16, .int .i64 17, .int .i64 18] : Array Value)[j]? = some (.int .i64 x) ∧
    ∀ k : Int, (j = 0 ∨ ∃ y : Int, (#[Value.int .i64 3, .int .i64 5, .int .i64 7, .int .i64 12, .int .i64 14, .int .i64 15, .int .i64 16, .int .i64 17, .int .i64 18] : Array Value)[j - 1]? = some (.int .i64 y) ∧ y ≤ k) → k < x → bindsF k = j := by
  obtain rfl | rfl | rfl | rfl | rfl | rfl | rfl | rfl | rfl : j = 0 ∨ j = 1 ∨ j = 2 ∨ j = 3 ∨ j = 4 ∨ j = 5 ∨ j = 6 ∨ j = 7 ∨ j = 8 := by omega
  all_goals
    refine ⟨_, rfl, fun k h hk => ?_⟩
    have hl : ∀ y : Int, y ≤ k → y ≤ k := fun _ h => h
    rcases h with h | ⟨y, hy, hyk⟩
    · first
        | omega
        | (unfold bindsF; rw [if_pos hk]; rfl)
    · first
        | (simp at hy; subst hy; unfold bindsF; (repeat' split) <;> first | omega | rfl)
        | (unfold bindsF; (repeat' split) <;> first | omega | rfl)
theorem binds_any (k : Int) (w : World) : Calls Tryd.prog 8 #[.int .i64 k] w fun e w' => e = .returned (.int .i64 (bindsF k)) ∧ Below w.heap.size w w' := by
  have HC := Lib.hid thr_cell
  have HN := Lib.hid (heap_alloc_new w (.cells #[Value.int .i64 3, .int .i64 5, .int .i64 7, .int .i64 12, .int .i64 14, .int .i64 15, .int .i64 16, .int .i64 17, .int .i64 18] 3))
  go_enter Tryd.func8, Tryd.ntmps8
  go_wp2
  go_loop [7] (fun i => ∃ j : Nat, j ≤ 9 ∧ i = .int .i64 j ∧ (j = 0 ∨ ∃ y : Int, (#[Value.int .i64 3, .int .i64 5, .int .i64 7, .int .i64 12, .int .i64 14, .int .i64 15, .int .i64 16, .int .i64 17, .int .i64 18] : Array Value)[j - 1]? = some (.int .i64 y) ∧ y ≤ k)) (fun i => 9 - (intOf i).toNat)
  case atStart => exact ⟨0, Nat.zero_le _, rfl, .inl rfl⟩
  case round =>
    obtain ⟨j, hj, rfl, hp⟩ := hrel
    have HP := Lib.hid hp; clear hp
    by_cases hjl : j < 9
    · obtain ⟨x, hx, hb⟩ := HC.out j hjl
      have HX := Lib.hid hx
      have cx : (w.alloc (.cells #[Value.int .i64 3, .int .i64 5, .int .i64 7, .int .i64 12, .int .i64 14, .int .i64 15, .int .i64 16, .int .i64 17, .int .i64 18] 3)).cell? ⟨w.heap.size, j, none⟩ = some (.int .i64 x) := by
        rw [← hx]
        exact cell_of_row _ _ _ _ _ _ HN.out
      have HB := Lib.hid hb
      clear hb hx
      by_cases hkx : k < x
      · go_wp2
        go_ret
        exact ⟨by rw [HB.out k HP.out hkx]; rfl, below_alloc1 _ _⟩
      · go_wp2
        go_round
        case rel => exact ⟨j + 1, by omega, by go_num, .inr ⟨x, HX.out, by omega⟩⟩
        case measure => simp [intOf]; omega
    · obtain rfl : j = 9 := by omega
      have h9 : bindsF k = 9 := by
        rcases HP.out with h | ⟨y, hy, hyk⟩
        · omega
        · simp at hy
          subst hy
          unfold bindsF
          (repeat' split) <;> omega
      have H9 := Lib.hid h9; clear h9
      go_wp2
      go_ret
      exact ⟨by rw [H9.out]; rfl, below_alloc1 _ _⟩
theorem binds_is {k u : Int} (w : World) (h : bindsF k = u) : Calls Tryd.prog 8 #[.int .i64 k] w fun e w' => e = .returned (.int .i64 u) ∧ Below w.heap.size w w' := h ▸ binds_any k w
theorem opLevel_is {k : Nat} {u : Int} {bm : Nat} (w : World) (hk : k < 19) (h : bindsF k = u) (hL : HasLev w bm) : Calls Tryd.prog 7 #[.int .i64 k] w fun e w' => e = .returned (.int .i64 (u + 5)) ∧ w = w' := by
  obtain ⟨hc, hlt, hl⟩ := hL
  have hl' := hl k hk
  rw [h] at hl'
  clear hl h
  go_enter Tryd.func7, Tryd.ntmps7
  go_wp2
  go_ret
  exact ⟨rfl, rfl⟩

theorem ret_bool {a : Bool} (h : a = true) : Ending.returned (.bool a) = .returned (.bool true) := by rw [h]
theorem eqs_same (u v : Int) : ((u + 5 == v + 5) == (u == v)) = true := by
  have h1 : (u + 5 == v + 5) = decide (u + 5 = v + 5) := rfl
  have h2 : (u == v) = decide (u = v) := rfl
  have h3 : (u + 5 = v + 5) = (u = v) := propext ⟨fun h => by omega, fun h => by omega⟩
  rw [h1, h2]
  simp only [h3, beq_self_eq_true]
theorem opLevels_walk (n m : Int) (bm : Nat) (W : World) (hL : ∀ w', Below W.heap.size W w' → HasLev w' bm) :
    Calls Tryd.prog 3 #[.int .i64 n, .int .i64 m] W fun e W' => e = .returned (.bool true) ∧ Below W.heap.size W W' := by
  have HL := Lib.hid hL; clear hL
  by_cases h0 : n < 0
  · go_enter Tryd.func3, Tryd.ntmps3
    go_wp2
    go_ret
    exact ⟨rfl, Below.refl _ _⟩
  have d0 : decide (n < 0) = false := by simp; omega
  by_cases h1 : m < 0
  · go_enter Tryd.func3, Tryd.ntmps3
    go_wp2
    go_ret
    exact ⟨rfl, Below.refl _ _⟩
  have d1 : decide (m < 0) = false := by simp; omega
  by_cases h2 : 19 ≤ n
  · have d2 : decide (19 ≤ n) = true := by simpa using h2
    go_enter Tryd.func3, Tryd.ntmps3
    go_wp2_with fail
    refine (ops_any _).mono ?_
    rintro e w1 ⟨rfl, hb1⟩
    go_wp2_with fail
    go_ret
    exact ⟨rfl, hb1⟩
  have d2 : decide (19 ≤ n) = false := by simp; omega
  by_cases h3 : 19 ≤ m
  · have d3 : decide (19 ≤ m) = true := by simpa using h3
    go_enter Tryd.func3, Tryd.ntmps3
    go_wp2_with fail
    refine (ops_any _).mono ?_
    rintro e w1 ⟨rfl, hb1⟩
    go_wp2_with fail
    refine (ops_any _).mono ?_
    rintro e w2 ⟨rfl, hb2⟩
    have hB := hb1.trans (hb2.mono hb1.size)
    go_wp2_with fail
    go_ret
    exact ⟨rfl, hB⟩
  obtain ⟨k, rfl⟩ := Int.eq_ofNat_of_zero_le (show 0 ≤ n by omega)
  obtain ⟨l, rfl⟩ := Int.eq_ofNat_of_zero_le (show 0 ≤ m by omega)
  have hk : k < 19 := by omega
  have hl : l < 19 := by omega
  have d3 : decide (19 ≤ (l : Int)) = false := by simp; omega
  obtain ⟨u, hu⟩ : ∃ u, bindsF k = u := ⟨_, rfl⟩
  obtain ⟨v, hv⟩ : ∃ v, bindsF l = v := ⟨_, rfl⟩
  have bu := bindsF_le k
  have bv := bindsF_le l
  rw [hu] at bu
  rw [hv] at bv
  have p0 : (0 : Int) < u + 5 := by omega
  have p1 : (0 : Int) ≤ u := bu.1
  have p2 : u ≤ 9 := bu.2
  have p3 : (0 : Int) ≤ v := bv.1
  have p4 : v ≤ 9 := bv.2
  have HU := Lib.hid hu; have HV := Lib.hid hv
  clear hu hv bu bv h0 h1 h2 h3
  go_enter Tryd.func3, Tryd.ntmps3
  go_wp2_with fail
  refine (ops_any _).mono ?_
  rintro e w1 ⟨rfl, hb1⟩
  go_wp2_with fail
  refine (ops_any _).mono ?_
  rintro e w2 ⟨rfl, hb2⟩
  have hB2 := hb1.trans (hb2.mono hb1.size)
  clear hb1 hb2
  go_wp2_with fail
  refine (opLevel_is _ hk HU.out (HL.out _ hB2)).mono ?_
  rintro e w3 ⟨rfl, rfl⟩
  go_wp2_with fail
  refine (opLevel_is _ hl HV.out (HL.out _ hB2)).mono ?_
  rintro e w3 ⟨rfl, rfl⟩
  go_wp2_with fail
  refine (binds_is _ HU.out).mono ?_
  rintro e w3 ⟨rfl, hb3⟩
  have hB3 := hB2.trans (hb3.mono hB2.size)
  go_wp2_with fail
  refine (binds_is _ HV.out).mono ?_
  rintro e w4 ⟨rfl, hb4⟩
  have hB4 := hB3.trans (hb4.mono hB3.size)
  clear hB2 hb3 hB3 hb4
  go_wp2_with fail
  refine (binds_is _ HU.out).mono ?_
  rintro e w5 ⟨rfl, hb5⟩
  have hB5 := hB4.trans (hb5.mono hB4.size)
  go_wp2_with fail
  refine (binds_is _ HV.out).mono ?_
  rintro e w6 ⟨rfl, hb6⟩
  have hB6 := hB5.trans (hb6.mono hB5.size)
  go_wp2_with fail
  go_ret
  exact ⟨ret_bool (eqs_same u v), hB6⟩

theorem levMet (os : Os) (args : Array Value) : laidMetH Tryd.prog Rows.fnOpLevelsRow.laid ((World.doorLaid Tryd.prog 128 os).forCall (fun _ _ => 0) ⟨#[], args, []⟩).memory :=
  laidMetH_of_parts3 (fuel := 8) (laidMet_of_run' 8 (by kernel_rfl) (by kernel_rfl)) (by kernel_rfl) (by kernel_rfl)

set_option maxRecDepth 100000 in
theorem opLevels_lifted (os : Os) (started : os.Started) (H : Type) (enc : TypeId × Value → H) :
    ReturnsInHanded {} Tryd.checked os 3 .any (fun w args => (Rows.fnOpLevelsSpec.pre enc Tryd.prog Tryd.f3 [] false w args ∧ laidMetH Tryd.prog Rows.fnOpLevelsRow.laid w) ∧ sizedMet enc Tryd.prog Tryd.f3 (OpenSpec.ofChange Rows.fnOpLevelsSpec) false w args)
      (Rows.fnOpLevelsSpec.post enc Tryd.prog Tryd.f3 false true false false) :=
  laid_lift1 (C := Tryd.checked) (tb := 4) (tv := 58) (vn := "loop.example/pub-sourcepieces/pub/jsonnet/inner/ast.bopPrecedence") 2 own started (by kernel_rfl) Tryd.func3
    (ChangeSpec.witness_shaped (enc := enc) (C := Tryd.checked) (os := os) (X := fun w _ => laidMetH Tryd.prog Rows.fnOpLevelsRow.laid w) false (World.doorLaid Tryd.prog 128 os) #[.int .i64 0, .int .i64 0] 8 rfl (World.shaped_of_RefB (by kernel_rfl) (by kernel_rfl)) (by kernel_rfl) (by kernel_rfl) (by kernel_rfl) (levMet os _))
    laidOut rfl rfl Tryd.underlying4 (params_ok (by kernel_rfl)) (by kernel_rfl) (of_decide_eq_true (by kernel_rfl)) (fun g hg => by
      obtain rfl := Option.some.inj (gLev.symm.trans hg)
      kernel_rfl) rfl (fun ds g h => by match ds, h with | [_, _], _ => rfl)
    (fun W base args ds ps hval0 hA0 _ hL => by
      have hA : DataW.TrodAll enc Tryd.prog W 0 (fun _ => true) true Tryd.f3.params.toList args.toList ds ps := hA0
      have hval : ∀ (j : Nat) t v, Tryd.f3.params[j]? = some t → args[j]? = some v → Value.okWide Tryd.prog W .any base t v := hval0
      rw [Tryd.params3] at hA hval
      obtain ⟨v0, v1, d0, d1, p0, p1, rfl, rfl, rfl, h0, h1⟩ := trodAll_two hA
      obtain ⟨n, rfl, rfl, rfl, wn⟩ := open_int Tryd.underlying3 (hval 0 3 v0 rfl rfl) h0
      obtain ⟨m, rfl, rfl, rfl, wm⟩ := open_int Tryd.underlying3 (hval 1 3 v1 rfl rfl) h1
      obtain ⟨bm, hb⟩ := lev_of_laid hL
      exact opLevels_walk n m bm W hb)

theorem opLevels_row : Rows.FnOpLevelsSaid :=
  OpenClaim.holds_of_wide 3 Tryd.f3 rfl rfl rfl rfl rfl rfl rfl ⟨rfl, rfl, rfl, rfl, rfl⟩ rfl rfl rfl rfl rfl (by kernel_rfl) Tryd.func3 (by kernel_rfl)
    (of_decide_eq_true (by kernel_rfl)) (by unfold Func.isWrapper; first | (rw [if_pos (by decide +kernel)]; kernel_rfl) | (rw [if_neg (by decide +kernel)]; exact ⟨rfl, rfl⟩))
    (fun os started H enc _ => opLevels_lifted os started H enc)

theorem opLevels_holds : Rows.FnOpLevelsCardSaid :=
  Claim7.holds_tied_plain_at .later [] [.mapped] true (true, _) false
    opLevels_row (fun _ h => by cases h) (by kernel_rfl) (fun _ h => by cases h) fnOpLevels_row_tie rfl ⟨rfl, rfl⟩ (by kernel_rfl) rfl
    (fun f fn hf hfn => by
      obtain rfl : f = 3 := Option.some.inj ((show Tryd.prog.funcNamed "loop.example/pub-sourcepieces/laws.FnOpLevels" = some 3 by kernel_rfl).symm.trans hf) |>.symm
      obtain rfl : fn = Tryd.f3 := (Option.some.inj (Tryd.func3.symm.trans hfn)).symm
      exact ⟨by kernel_rfl, fun j t ht => by
        rw [Tryd.params3] at ht
        have hm := Array.mem_of_getElem? ht
        have hall : ((#[3, 3] : Array TypeId).toList.all fun u => !Tryd.prog.wantsStandIn u) = true := by kernel_rfl
        exact (show Tryd.prog.wantsStandIn t = false by simpa using List.all_eq_true.1 hall t (by simpa using hm))⟩)
    (by kernel_rfl)
#print axioms opLevels_holds
end Go.Proofs.YtbfigfpaphajgaaDoor
