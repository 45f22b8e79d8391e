/-
  FnOpText: operators between are written as the description says. The table of texts holds what the program's text lays in it (tied); no call of fmt is reached.
-/
import Derived.Test.YtbfigfpaphajgaaFmtTab
namespace Go.Proofs.YtbfigfpaphajgaaFmt
open Go.ChangeShapes Go.WideShapes Go.ChangeAt Go.RowKit Go.Joins Go.Extern.Stop Go.Stop Go.Extern

/-- The texts, in order. -/
def opsL : List (List UInt8) := [[42], [47], [37], [43], [45], [60, 60], [62, 62], [62], [62, 61], [60], [60, 61], [105, 110], [61, 61], [33, 61], [38], [94], [124], [38, 38], [124, 124]]

theorem fnOpTextSpec (w : World) : Calls Tryf.prog 5 #[] w fun e w' => e = .returned (.slice (some ⟨w.heap.size, 0, none⟩) 19 19) ∧ Below w.heap.size w w' ∧ w.heap.size < w'.heap.size ∧
    ∀ (i : Nat) (b : List UInt8), opsL[i]? = some b → w'.cell? ⟨w.heap.size, i, none⟩ = some (.string ⟨b.toArray⟩) := by
  go_enter Tryf.func5, Tryf.ntmps5
  go_wp2
  go_ret
  refine ⟨rfl, below_alloc1 _ _, by simp, fun i b hb => ?_⟩
  rw [World.cell?_alloc_mark]
  have hi : i < 19 := (List.getElem?_eq_some_iff.1 hb).1
  have key : ∀ i, i < 19 → ∀ b, opsL[i]? = some b → (#[Value.string ⟨#[42]⟩, Value.string ⟨#[47]⟩, Value.string ⟨#[37]⟩, Value.string ⟨#[43]⟩, Value.string ⟨#[45]⟩, Value.string ⟨#[60, 60]⟩, Value.string ⟨#[62, 62]⟩, Value.string ⟨#[62]⟩, Value.string ⟨#[62, 61]⟩, Value.string ⟨#[60]⟩, Value.string ⟨#[60, 61]⟩, Value.string ⟨#[105, 110]⟩, Value.string ⟨#[61, 61]⟩, Value.string ⟨#[33, 61]⟩, Value.string ⟨#[38]⟩, Value.string ⟨#[94]⟩, Value.string ⟨#[124]⟩, Value.string ⟨#[38, 38]⟩, Value.string ⟨#[124, 124]⟩] : Array Value)[i]? = some (.string ⟨b.toArray⟩) := by
    intro i hi b hb
    have hb' : b = opsL.getD i [] := by simp [List.getD, hb]
    subst hb'
    clear hb
    match i, hi with
    | 0, _ => rfl
    | 1, _ => rfl
    | 2, _ => rfl
    | 3, _ => rfl
    | 4, _ => rfl
    | 5, _ => rfl
    | 6, _ => rfl
    | 7, _ => rfl
    | 8, _ => rfl
    | 9, _ => rfl
    | 10, _ => rfl
    | 11, _ => rfl
    | 12, _ => rfl
    | 13, _ => rfl
    | 14, _ => rfl
    | 15, _ => rfl
    | 16, _ => rfl
    | 17, _ => rfl
    | 18, _ => rfl
    | i + 19, hi => exact absurd hi (by omega)
  exact key i hi b hb

theorem fnOpTextStr (k : Nat) (b : Nat) (off cap : Nat) (s : ByteArray) (w : World) (hk : k < 19) (hg : w.cell? ⟨0, 0, none⟩ = some (.slice (some ⟨b, off, none⟩) 19 cap)) (hc : w.cell? ⟨b, off + k, none⟩ = some (.string s)) :
    Calls Tryf.prog 9 #[.int .i64 k] w fun e w' => e = .returned (.string s) ∧ w = w' := by
  have h0 : ((k : Int) < 0) = False := by simp
  have h1 : ((k : Int) < 19) := by omega
  have h2 : (0 : Int) ≤ (k : Int) := by omega
  have d0 : decide ((k : Int) < 0) = false := by simp
  have d1 : decide (19 ≤ (k : Int)) = false := by simp; omega
  clear h0
  go_enter Tryf.func9, Tryf.ntmps9
  go_wp2
  go_ret
  exact ⟨rfl, rfl⟩

theorem fnOpTextImpl (k : Nat) (b : Nat) (off cap : Nat) (s : ByteArray) (w : World) (hk : k < 19) (hg : w.cell? ⟨0, 0, none⟩ = some (.slice (some ⟨b, off, none⟩) 19 cap)) (hc : w.cell? ⟨b, off + k, none⟩ = some (.string s)) :
    Calls Tryf.prog 6 #[.int .i64 k] w fun e w' => e = .returned (.string s) ∧ w = w' := by
  go_enter Tryf.func6, Tryf.ntmps6
  go_wp2_with (go_at_call 9; refine (fnOpTextStr k b off cap s _ hk hg hc).mono ?_; rintro e w' ⟨rfl, rfl⟩)
  go_ret
  exact ⟨rfl, rfl⟩

theorem fnOpTextWalk (n : Int) (a : Addr) (cap : Nat) (W : World) (hgl : 0 < W.heap.size) (hg : W.cell? ⟨0, 0, none⟩ = some (.slice (some a) 19 cap))
    (hc : ∀ (i : Nat) (b : List UInt8), opsL[i]? = some b → W.cell? (a.add i) = some (.string ⟨b.toArray⟩)) :
    Calls Tryf.prog 3 #[.int .i64 n] W fun e W' => e = .returned (.bool true) ∧ Below W.heap.size W W' := by
  obtain ⟨b, off, spot⟩ := a
  have hspot : spot = none := by simpa [Addr.add] using World.cell?_spot (hc 0 [42] rfl)
  subst hspot
  have hlt : b < W.heap.size := World.block_lt_of_cell? W ⟨b, off, none⟩ (by simpa [Addr.add] using hc 0 [42] rfl)
  by_cases h0 : n < 0
  · clear hc
    go_enter Tryf.func3, Tryf.ntmps3
    go_wp2
    go_ret
    exact ⟨rfl, Below.refl _ _⟩
  have d0 : decide (n < 0) = false := by simp; omega
  by_cases h1 : 19 ≤ n
  · have d1 : decide (19 ≤ n) = true := by simpa using h1
    clear hc
    go_enter Tryf.func3, Tryf.ntmps3
    go_wp2_with fail
    refine (fnOpTextSpec _).mono ?_
    rintro e w1 ⟨rfl, hb1, _, _⟩
    go_wp2_with fail
    go_ret
    exact ⟨rfl, hb1⟩
  obtain ⟨k, rfl⟩ := Int.eq_ofNat_of_zero_le (show 0 ≤ n by omega)
  have hk : k < 19 := by omega
  have d1 : decide (19 ≤ (k : Int)) = false := by simp; omega
  have hb := hc k _ (List.getElem?_eq_getElem (l := opsL) (i := k) hk)
  obtain ⟨s, hs⟩ : ∃ s, opsL[k]'hk = s := ⟨_, rfl⟩
  rw [hs] at hb
  have hcell : W.cell? ⟨b, off + k, none⟩ = some (.string ⟨s.toArray⟩) := by
    rw [← hb]
    unfold Addr.add
    split
    · rename_i e; subst e; rfl
    · rfl
  have i1 : (k : Int) < 19 := by omega
  have i0 : (0 : Int) ≤ (k : Int) := by omega
  clear hc hb h0 h1
  go_enter Tryf.func3, Tryf.ntmps3
  go_wp2_with fail
  refine (fnOpTextSpec _).mono ?_
  rintro e w1 ⟨rfl, hb1, hz1, _⟩
  have hg1 := ((bcell hb1).1 0 0 hgl).trans hg
  have hc1 := ((bcell hb1).1 b (off + k) hlt).trans hcell
  clear hg hcell
  go_wp2_with fail
  refine (fnOpTextImpl k b off cap _ _ hk hg1 hc1).mono ?_
  rintro e w2 ⟨rfl, rfl⟩
  go_wp2_with fail
  refine (fnOpTextSpec _).mono ?_
  rintro e w3 ⟨rfl, hb3, hz3, hc3⟩
  have hc3' := hc3 k s (by rw [List.getElem?_eq_getElem hk, hs])
  have hB := hb1.trans (hb3.mono (by omega))
  clear hc3 hg1 hc1 hs
  go_wp2_with fail
  go_ret
  exact ⟨rfl, hB⟩

theorem fnOpTextMet (os : Os) (args : Array Value) : laidMetH Tryf.prog Rows.fnOpTextRow.laid ((World.doorLaid Tryf.prog 400 os).forCall (fun _ _ => 0) ⟨#[], args, []⟩).memory :=
  laidMetH_of_parts3 (fuel := 8) (laidMet_of_run' 8 (by kernel_rfl) (by kernel_rfl)) (by kernel_rfl) (by kernel_rfl)

set_option maxRecDepth 100000 in
theorem fnOpText_lifted (os : Os) (started : os.Started) (H : Type) (enc : TypeId × Value → H) :
    ReturnsInTold none {} Tryf.checked os 3 .any Input.okWide ((OpenSpec.ofChange Rows.fnOpTextSpec).preRow enc Tryf.prog Tryf.f3 [] false Rows.fnOpTextRow.laid) (fun F => ((OpenSpec.ofChange Rows.fnOpTextSpec).at F).post enc Tryf.prog Tryf.f3 false true false false) (aloneAtReturn Tryf.prog) nothingAlways :=
  told_lift1 (C := Tryf.checked) (tb := 4) (tv := 22) (vn := "loop.example/pub-sourcepieces/pub/jsonnet/ast.bopStrings") 1 (by kernel_rfl) own started (by kernel_rfl) Tryf.func3
    (OpenSpec.witness_stopped_atRef (enc := enc) (C := Tryf.checked) false (World.doorLaid Tryf.prog 400 os) #[.int .i64 0] rfl (by kernel_rfl) (by kernel_rfl) (by kernel_rfl)
      (OpenSpec.preRow_of_B rfl 8 (by kernel_rfl) (by kernel_rfl) (fnOpTextMet os _)))
    laidOut rfl rfl Tryf.underlying4 (params_ok (by kernel_rfl)) (by kernel_rfl) (of_decide_eq_true (by kernel_rfl)) (fun g hg => by
      obtain rfl := Option.some.inj ((show Tryf.prog.globalNamed "loop.example/pub-sourcepieces/pub/jsonnet/ast.bopStrings" = some 0 by kernel_rfl).symm.trans hg)
      kernel_rfl) rfl (fun ds g h => by match ds, h with | [_], _ => rfl)
    (fun W base args ds ps hval0 hA0 hL => by
      have hA : DataW.TrodAll enc Tryf.prog W 0 (fun _ => true) true Tryf.f3.params.toList args.toList ds ps := hA0
      have hval : ∀ (j : Nat) t v, Tryf.f3.params[j]? = some t → args[j]? = some v → Value.okWide Tryf.prog W .any base t v := hval0
      rw [Tryf.params3] at hA hval
      obtain ⟨v0, d0, rfl, rfl, h0⟩ := trodAll_one hA
      obtain ⟨n, rfl, rfl, rfl, wn⟩ := open_int Tryf.underlying3 (hval 0 3 v0 rfl rfl) h0
      obtain ⟨a, cap, h1, h2, h3⟩ := open_tab (vn := "loop.example/pub-sourcepieces/pub/jsonnet/ast.bopStrings") (gn := 0) (tv := 22) (te := 9) (ss := opsL) (fun W => MakeChecks.laidMetH_plain _ _ _ (by kernel_rfl)) (by kernel_rfl) (by kernel_rfl) Tryf.underlying22 Tryf.underlying9 (by kernel_rfl) hL
      exact fnOpTextWalk n a cap W h2 h1 h3)

theorem fnOpText_holds : Rows.FnOpTextToldSaid :=
  Claim7.holds_of_told_tied_any_at .later 3 Tryf.f3 "fmt.Sprintf, its operands' methods called" [] [] _ _ _ _ _ (by kernel_rfl) rfl rfl rfl laidOut (by kernel_rfl) rfl ⟨rfl, rfl, rfl, rfl, rfl, rfl, rfl⟩ rfl rfl (by kernel_rfl) (by kernel_rfl) Tryf.func3 (by kernel_rfl)
    (of_decide_eq_true (by kernel_rfl)) (by unfold Func.isWrapper; first | (rw [if_pos (by decide +kernel)]; kernel_rfl) | (rw [if_neg (by decide +kernel)]; exact ⟨rfl, rfl⟩)) progStops.symm rfl progStopKnobs.symm (by kernel_rfl)
    (by kernel_rfl) (by kernel_rfl) (by kernel_rfl) (by kernel_rfl) (by kernel_rfl) (by kernel_rfl) (by kernel_rfl) (by kernel_rfl) (by kernel_rfl) rfl (by kernel_rfl) rfl rfl
    rfl rfl
    rfl (by kernel_rfl) (by kernel_rfl) (by kernel_rfl) (by decide) (by kernel_rfl) fnOpText_row_tie
    (OpenClaim.moreEntering_of (by kernel_rfl) (by kernel_rfl) (by kernel_rfl) (by kernel_rfl) (by kernel_rfl) (by kernel_rfl) (by kernel_rfl) (by kernel_rfl) (by kernel_rfl) (by kernel_rfl))
    ⟨_, WideRow.started_initial, progQuiet _⟩
    (fun os started _ H enc _ => fnOpText_lifted os started H enc)
#print axioms fnOpText_holds
end Go.Proofs.YtbfigfpaphajgaaFmt
