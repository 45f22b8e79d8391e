/-
  FnLines: a text is divided into its lines. What bytes.ErrTooLarge holds is tied to the program's text.
-/
import Derived.Test.YthppionkcfkafaaDoorBuild
import Derived.Test.YthppionkcfkafaaDoorLaid0
namespace Go.Proofs.YthppionkcfkafaaDoor
open Go.ChangeShapes Go.WideShapes Go.ChangeAt Go.RowKit Go.Joins Go.WideElems Go.Maps

theorem implLines_any (s : ByteArray) (hs : s.size ≤ 400) (hu : Lib.runesFrom s s.size 0 = s.data.toList) (w : World) :
    Calls Tryd.prog 13 #[.string s] w fun e w' => (∃ v, e = .returned v ∧ StrRow w' v (cutL s.data.toList)) ∧ Below w.heap.size w w' := by
  have HU := Lib.hid hu; clear hu
  go_enter Tryd.func13, Tryd.ntmps13
  go_wp2_with fail
  refine (buildSource_any _ s hs HU.out _).mono ?_
  rintro e w1 ⟨⟨sb, v, rfl, hh, hr⟩, hb⟩
  have c1 := cell_of (j := 1) hh rfl
  have HR := Lib.hid hr; clear hr hh
  go_wp2
  go_ret
  exact ⟨⟨_, rfl, HR.out⟩, hb⟩
theorem sameStrs_any {w : World} {v v' : Value} {ls : List (List UInt8)} (h : StrRow w v ls) (h' : StrRow w v' ls) (hm : ls.length ≤ 1000) :
    Calls Tryd.prog 12 #[v, v'] w fun e w' => e = .returned (.bool true) ∧ Below w.heap.size w w' := by
  obtain ⟨b, cap, rfl, hcap, hlt, hc⟩ := h
  obtain ⟨b', cap', rfl, hcap', hlt', hc'⟩ := h'
  have HC := Lib.hid hc; have HC' := Lib.hid hc'; clear hc hc'
  go_enter Tryd.func12, Tryd.ntmps12
  go_wp2
  go_loopw [13] (fun i wr => ∃ j : Nat, j ≤ ls.length ∧ i = .int .i64 j ∧ Below w.heap.size w wr) (fun i _ => ls.length - (intOf i).toNat)
  case atStart => exact ⟨0, Nat.zero_le _, rfl, Below.refl _ _⟩
  case round =>
    obtain ⟨j, hj, rfl, hB⟩ := hrel
    by_cases hjl : j < ls.length
    · obtain ⟨l, hl⟩ : ∃ l, ls[j]? = some l := ⟨_, List.getElem?_eq_getElem hjl⟩
      have c1 : wr.cell? ⟨b, j, none⟩ = some (.string ⟨l.toArray⟩) := ((bcell hB).1 b j hlt).trans (HC.out j l hl)
      have c2 : wr.cell? ⟨b', j, none⟩ = some (.string ⟨l.toArray⟩) := ((bcell hB).1 b' j hlt').trans (HC'.out j l hl)
      have l1 : b < wr.heap.size := by have := hB.size; omega
      have l2 : b' < wr.heap.size := by have := hB.size; omega
      clear hl
      go_wp2_with fail
      refine wp_region_quiet_C (Stay wr) (by kernel_rfl) (by kernel_rfl) (stay_start _) ?_
      repeat (first
        | (refine wpQ_skip (by rfl) ?_; simp only [Act.put, List.setIfInBounds_toArray, List.set_cons_zero, List.set_cons_succ])
        | (refine wpQ_value (v := ?_) (by rfl) ?_ ?_; rotate_left; (intro w hw; go_simp; done); simp only [Act.put, List.setIfInBounds_toArray, List.set_cons_zero, List.set_cons_succ])
        | (refine wpQ_value (v := ?_) (by rfl) ?_ ?_; rotate_left; (intro w hw; go_simp; with_reducible rfl); simp only [Act.put, List.setIfInBounds_toArray, List.set_cons_zero, List.set_cons_succ])
        | (refine wpQ_call (f := ?_) (args := ?_) (v := ?_) (by rfl) ?_ ?_ ?_; rotate_left 3; (intro w hw; go_simp; first | with_reducible rfl | (constructor; with_reducible rfl; with_reducible rfl)); (intro w hw; first | fail); simp only [Act.put, List.setIfInBounds_toArray, List.set_cons_zero, List.set_cons_succ]))
      refine wpQuiet_nil ?_
      intro w1 hS1
      go_wp2
      go_roundw
      case rel => exact ⟨j + 1, by omega, by go_num, hB.trans (hS1.1.mono (by have := hB.size; omega))⟩
      case measure => simp [intOf]; omega
    · go_wp2
      go_ret
      exact ⟨rfl, hB⟩
theorem lines_walk (s : ByteArray) (W : World) : Calls Tryd.prog 4 #[.string s] W fun e W' => e = .returned (.bool true) ∧ Below W.heap.size W W' := by
  by_cases h1 : (2147483647 : Int) < s.size
  · have d1 : decide ((2147483647 : Int) < s.size) = true := decide_eq_true h1
    go_enter Tryd.func4, Tryd.ntmps4
    go_wp2
    go_ret
    exact ⟨rfl, Below.refl _ _⟩
  have d1 : decide ((2147483647 : Int) < s.size) = false := decide_eq_false h1
  by_cases h2 : (400 : Int) < s.size
  · have d2 : decide ((400 : Int) < s.size) = true := decide_eq_true h2
    go_enter Tryd.func4, Tryd.ntmps4
    go_wp2
    go_ret
    exact ⟨rfl, Below.refl _ _⟩
  have d2 : decide ((400 : Int) < s.size) = false := decide_eq_false h2
  have hs : s.size ≤ 400 := by omega
  have hcl := (cutL_len s.data.toList).2
  rw [← Lib.size_eq] at hcl
  have HCL := Lib.hid (show (cutL s.data.toList).length ≤ 1000 by omega)
  clear h1 h2 hcl
  go_enter Tryd.func4, Tryd.ntmps4
  go_wp2_with fail
  refine (utf_any s hs _).mono ?_
  rintro e w1 ⟨⟨r, rfl, hr⟩, hb1⟩
  cases r
  · clear hr
    go_wp2
    go_ret
    exact ⟨rfl, hb1⟩
  have HR := Lib.hid (hr rfl); clear hr
  go_wp2_with fail
  refine (implLines_any s hs HR.out _).mono ?_
  rintro e w2 ⟨⟨v2, rfl, hr2⟩, hb2⟩
  have HB2 := Lib.hid (hb1.trans (hb2.mono hb1.size)); clear hb2
  have HR2 := Lib.hid hr2; clear hr2
  go_wp2_with fail
  refine (cut_any s hs _).mono ?_
  rintro e w3 ⟨⟨v3, rfl, hr3⟩, hb3⟩
  have HB3 := Lib.hid (HB2.out.trans (hb3.mono HB2.out.size))
  have HR3 := Lib.hid hr3
  have HR4 := Lib.hid (HR2.out.bel hb3)
  clear hb3 hr3
  go_wp2_with fail
  refine (sameStrs_any HR4.out HR3.out HCL.out).mono ?_
  rintro e w4 ⟨rfl, hb4⟩
  have HB4 := HB3.out.trans (hb4.mono HB3.out.size)
  go_wp2
  go_ret
  exact ⟨rfl, HB4⟩
theorem linesMet (os : Os) (args : Array Value) : laidMetH Tryd.prog Rows.fnLinesRow.laid ((World.doorLaid Tryd.prog 128 os).forCall (fun _ _ => 0) ⟨#[], args, []⟩).memory :=
  laidMetH_of_parts3 (fuel := 8) (laidMet_of_run' 8 (by kernel_rfl) (by kernel_rfl)) (by kernel_rfl) (by kernel_rfl)

set_option maxRecDepth 100000 in
theorem fnLines_lifted (os : Os) (started : os.Started) (H : Type) (enc : TypeId × Value → H) :
    ReturnsInHanded {} Tryd.checked os 4 .any (fun w args => (Rows.fnLinesSpec.pre enc Tryd.prog Tryd.f4 [] false w args ∧ laidMetH Tryd.prog Rows.fnLinesRow.laid w) ∧ sizedMet enc Tryd.prog Tryd.f4 (OpenSpec.ofChange Rows.fnLinesSpec) false w args)
      (Rows.fnLinesSpec.post enc Tryd.prog Tryd.f4 false true false false) :=
  laid_lift0 (C := Tryd.checked) (tb := 4) 1 own started (by kernel_rfl) Tryd.func4
    (ChangeSpec.witness_shaped (enc := enc) (C := Tryd.checked) (os := os) (X := fun w _ => laidMetH Tryd.prog Rows.fnLinesRow.laid w) false (World.doorLaid Tryd.prog 128 os) #[.string ByteArray.empty] 8 rfl (World.shaped_of_RefB (by kernel_rfl) (by kernel_rfl)) (by kernel_rfl) (by kernel_rfl) (by kernel_rfl) (linesMet os _))
    laidOut rfl rfl Tryd.underlying4 (params_ok (by kernel_rfl)) rfl (fun ds h => by match ds, h with | [_], _ => rfl)
    (fun W base args ds ps hval0 hA0 _ _ => by
      have hA : DataW.TrodAll enc Tryd.prog W 0 (fun _ => true) true Tryd.f4.params.toList args.toList ds ps := hA0
      have hval : ∀ (j : Nat) t v, Tryd.f4.params[j]? = some t → args[j]? = some v → Value.okWide Tryd.prog W .any base t v := hval0
      rw [Tryd.params4] at hA hval
      obtain ⟨v0, d0, rfl, rfl, h0⟩ := trodAll_one hA
      obtain ⟨s, rfl, rfl, rfl, ws⟩ := Go.ChangeMaps.open_string Tryd.underlying9 (hval 0 9 v0 rfl rfl) h0
      exact lines_walk s W)

theorem fnLines_row : Rows.FnLinesSaid :=
  OpenClaim.holds_of_wide 4 Tryd.f4 rfl rfl rfl rfl rfl rfl rfl ⟨rfl, rfl, rfl, rfl, rfl⟩ rfl rfl rfl rfl rfl (by kernel_rfl) Tryd.func4 (by kernel_rfl)
    (of_decide_eq_true (by kernel_rfl)) (by unfold Func.isWrapper; first | (rw [if_pos (by decide +kernel)]; kernel_rfl) | (rw [if_neg (by decide +kernel)]; exact ⟨rfl, rfl⟩))
    (fun os started H enc _ => fnLines_lifted os started H enc)

theorem fnLines : Rows.FnLinesCardSaid :=
  Claim7.holds_tied_plain_at .later [] [.sentinel] true (true, _) true
    fnLines_row (fun _ h => by cases h) (by kernel_rfl) (fun _ h => by cases h) fnLines_row_tie rfl ⟨rfl, rfl⟩ (by kernel_rfl) rfl
    (fun f fn hf hfn => by
      obtain rfl : f = 4 := Option.some.inj ((show Tryd.prog.funcNamed "loop.example/pub-sourcepieces/laws.FnLines" = some 4 by kernel_rfl).symm.trans hf) |>.symm
      obtain rfl : fn = Tryd.f4 := (Option.some.inj (Tryd.func4.symm.trans hfn)).symm
      exact ⟨by kernel_rfl, fun j t ht => by
        rw [Tryd.params4] at ht
        have hm := Array.mem_of_getElem? ht
        have hall : ((#[9] : Array TypeId).toList.all fun u => !Tryd.prog.wantsStandIn u) = true := by kernel_rfl
        exact (show Tryd.prog.wantsStandIn t = false by simpa using List.all_eq_true.1 hall t (by simpa using hm))⟩)
    (by kernel_rfl)
#print axioms fnLines
end Go.Proofs.YthppionkcfkafaaDoor
