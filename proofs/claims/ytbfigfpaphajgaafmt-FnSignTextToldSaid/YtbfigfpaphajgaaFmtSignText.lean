/-
  FnSignText: operators ahead are written as the description says. The table of texts holds what the program's text lays in it (tied); no call of fmt is reached.
-/
import Derived.Test.YtbfigfpaphajgaaFmtTab
namespace Go.Proofs.YtbfigfpaphajgaaFmt
open Go.ChangeShapes Go.WideShapes Go.ChangeAt Go.RowKit Go.Joins Go.Extern.Stop Go.Stop Go.Extern

/-- The texts, in order. -/
def signsL : List (List UInt8) := [[33], [126], [43], [45]]

theorem fnSignTextSpec (w : World) : Calls Tryf.prog 7 #[] w fun e w' => e = .returned (.slice (some ⟨w.heap.size, 0, none⟩) 4 4) ∧ Below w.heap.size w w' ∧ w.heap.size < w'.heap.size ∧
    ∀ (i : Nat) (b : List UInt8), signsL[i]? = some b → w'.cell? ⟨w.heap.size, i, none⟩ = some (.string ⟨b.toArray⟩) := by
  go_enter Tryf.func7, Tryf.ntmps7
  go_wp2
  go_ret
  refine ⟨rfl, below_alloc1 _ _, by simp, fun i b hb => ?_⟩
  rw [World.cell?_alloc_mark]
  have hi : i < 4 := (List.getElem?_eq_some_iff.1 hb).1
  have key : ∀ i, i < 4 → ∀ b, signsL[i]? = some b → (#[Value.string ⟨#[33]⟩, Value.string ⟨#[126]⟩, Value.string ⟨#[43]⟩, Value.string ⟨#[45]⟩] : Array Value)[i]? = some (.string ⟨b.toArray⟩) := by
    intro i hi b hb
    have hb' : b = signsL.getD i [] := by simp [List.getD, hb]
    subst hb'
    clear hb
    match i, hi with
    | 0, _ => rfl
    | 1, _ => rfl
    | 2, _ => rfl
    | 3, _ => rfl
    | i + 4, hi => exact absurd hi (by omega)
  exact key i hi b hb

theorem fnSignTextStr (k : Nat) (b : Nat) (off cap : Nat) (s : ByteArray) (w : World) (hk : k < 4) (hg : w.cell? ⟨1, 0, none⟩ = some (.slice (some ⟨b, off, none⟩) 4 cap)) (hc : w.cell? ⟨b, off + k, none⟩ = some (.string s)) :
    Calls Tryf.prog 10 #[.int .i64 k] w fun e w' => e = .returned (.string s) ∧ w = w' := by
  have h0 : ((k : Int) < 0) = False := by simp
  have h1 : ((k : Int) < 4) := by omega
  have h2 : (0 : Int) ≤ (k : Int) := by omega
  have d0 : decide ((k : Int) < 0) = false := by simp
  have d1 : decide (4 ≤ (k : Int)) = false := by simp; omega
  clear h0
  go_enter Tryf.func10, Tryf.ntmps10
  go_wp2
  go_ret
  exact ⟨rfl, rfl⟩

theorem fnSignTextImpl (k : Nat) (b : Nat) (off cap : Nat) (s : ByteArray) (w : World) (hk : k < 4) (hg : w.cell? ⟨1, 0, none⟩ = some (.slice (some ⟨b, off, none⟩) 4 cap)) (hc : w.cell? ⟨b, off + k, none⟩ = some (.string s)) :
    Calls Tryf.prog 8 #[.int .i64 k] w fun e w' => e = .returned (.string s) ∧ w = w' := by
  go_enter Tryf.func8, Tryf.ntmps8
  go_wp2_with (go_at_call 10; refine (fnSignTextStr k b off cap s _ hk hg hc).mono ?_; rintro e w' ⟨rfl, rfl⟩)
  go_ret
  exact ⟨rfl, rfl⟩

theorem fnSignTextWalk (n : Int) (a : Addr) (cap : Nat) (W : World) (hgl : 1 < W.heap.size) (hg : W.cell? ⟨1, 0, none⟩ = some (.slice (some a) 4 cap))
    (hc : ∀ (i : Nat) (b : List UInt8), signsL[i]? = some b → W.cell? (a.add i) = some (.string ⟨b.toArray⟩)) :
    Calls Tryf.prog 4 #[.int .i64 n] W fun e W' => e = .returned (.bool true) ∧ Below W.heap.size W W' := by
  obtain ⟨b, off, spot⟩ := a
  have hspot : spot = none := by simpa [Addr.add] using World.cell?_spot (hc 0 [33] rfl)
  subst hspot
  have hlt : b < W.heap.size := World.block_lt_of_cell? W ⟨b, off, none⟩ (by simpa [Addr.add] using hc 0 [33] rfl)
  by_cases h0 : n < 0
  · clear hc
    go_enter Tryf.func4, Tryf.ntmps4
    go_wp2
    go_ret
    exact ⟨rfl, Below.refl _ _⟩
  have d0 : decide (n < 0) = false := by simp; omega
  by_cases h1 : 4 ≤ n
  · have d1 : decide (4 ≤ n) = true := by simpa using h1
    clear hc
    go_enter Tryf.func4, Tryf.ntmps4
    go_wp2_with fail
    refine (fnSignTextSpec _).mono ?_
    rintro e w1 ⟨rfl, hb1, _, _⟩
    go_wp2_with fail
    go_ret
    exact ⟨rfl, hb1⟩
  obtain ⟨k, rfl⟩ := Int.eq_ofNat_of_zero_le (show 0 ≤ n by omega)
  have hk : k < 4 := by omega
  have d1 : decide (4 ≤ (k : Int)) = false := by simp; omega
  have hb := hc k _ (List.getElem?_eq_getElem (l := signsL) (i := k) hk)
  obtain ⟨s, hs⟩ : ∃ s, signsL[k]'hk = s := ⟨_, rfl⟩
  rw [hs] at hb
  have hcell : W.cell? ⟨b, off + k, none⟩ = some (.string ⟨s.toArray⟩) := by
    rw [← hb]
    unfold Addr.add
    split
    · rename_i e; subst e; rfl
    · rfl
  have i1 : (k : Int) < 4 := by omega
  have i0 : (0 : Int) ≤ (k : Int) := by omega
  clear hc hb h0 h1
  go_enter Tryf.func4, Tryf.ntmps4
  go_wp2_with fail
  refine (fnSignTextSpec _).mono ?_
  rintro e w1 ⟨rfl, hb1, hz1, _⟩
  have hg1 := ((bcell hb1).1 1 0 hgl).trans hg
  have hc1 := ((bcell hb1).1 b (off + k) hlt).trans hcell
  clear hg hcell
  go_wp2_with fail
  refine (fnSignTextImpl k b off cap _ _ hk hg1 hc1).mono ?_
  rintro e w2 ⟨rfl, rfl⟩
  go_wp2_with fail
  refine (fnSignTextSpec _).mono ?_
  rintro e w3 ⟨rfl, hb3, hz3, hc3⟩
  have hc3' := hc3 k s (by rw [List.getElem?_eq_getElem hk, hs])
  have hB := hb1.trans (hb3.mono (by omega))
  clear hc3 hg1 hc1 hs
  go_wp2_with fail
  go_ret
  exact ⟨rfl, hB⟩

theorem fnSignTextMet (os : Os) (args : Array Value) : laidMetH Tryf.prog Rows.fnSignTextRow.laid ((World.doorLaid Tryf.prog 400 os).forCall (fun _ _ => 0) ⟨#[], args, []⟩).memory :=
  laidMetH_of_parts3 (fuel := 8) (laidMet_of_run' 8 (by kernel_rfl) (by kernel_rfl)) (by kernel_rfl) (by kernel_rfl)

set_option maxRecDepth 100000 in
theorem fnSignText_lifted (os : Os) (started : os.Started) (H : Type) (enc : TypeId × Value → H) :
    ReturnsInTold none {} Tryf.checked os 4 .any Input.okWide ((OpenSpec.ofChange Rows.fnSignTextSpec).preRow enc Tryf.prog Tryf.f4 [] false Rows.fnSignTextRow.laid) (fun F => ((OpenSpec.ofChange Rows.fnSignTextSpec).at F).post enc Tryf.prog Tryf.f4 false true false false) (aloneAtReturn Tryf.prog) nothingAlways :=
  told_lift1 (C := Tryf.checked) (tb := 4) (tv := 22) (vn := "loop.example/pub-sourcepieces/pub/jsonnet/ast.uopStrings") 1 (by kernel_rfl) own started (by kernel_rfl) Tryf.func4
    (OpenSpec.witness_stopped_atRef (enc := enc) (C := Tryf.checked) false (World.doorLaid Tryf.prog 400 os) #[.int .i64 0] rfl (by kernel_rfl) (by kernel_rfl) (by kernel_rfl)
      (OpenSpec.preRow_of_B rfl 8 (by kernel_rfl) (by kernel_rfl) (fnSignTextMet os _)))
    laidOut rfl rfl Tryf.underlying4 (params_ok (by kernel_rfl)) (by kernel_rfl) (of_decide_eq_true (by kernel_rfl)) (fun g hg => by
      obtain rfl := Option.some.inj ((show Tryf.prog.globalNamed "loop.example/pub-sourcepieces/pub/jsonnet/ast.uopStrings" = some 1 by kernel_rfl).symm.trans hg)
      kernel_rfl) rfl (fun ds g h => by match ds, h with | [_], _ => rfl)
    (fun W base args ds ps hval0 hA0 hL => by
      have hA : DataW.TrodAll enc Tryf.prog W 0 (fun _ => true) true Tryf.f4.params.toList args.toList ds ps := hA0
      have hval : ∀ (j : Nat) t v, Tryf.f4.params[j]? = some t → args[j]? = some v → Value.okWide Tryf.prog W .any base t v := hval0
      rw [Tryf.params4] at hA hval
      obtain ⟨v0, d0, rfl, rfl, h0⟩ := trodAll_one hA
      obtain ⟨n, rfl, rfl, rfl, wn⟩ := open_int Tryf.underlying3 (hval 0 3 v0 rfl rfl) h0
      obtain ⟨a, cap, h1, h2, h3⟩ := open_tab (vn := "loop.example/pub-sourcepieces/pub/jsonnet/ast.uopStrings") (gn := 1) (tv := 22) (te := 9) (ss := signsL) (fun W => MakeChecks.laidMetH_plain _ _ _ (by kernel_rfl)) (by kernel_rfl) (by kernel_rfl) Tryf.underlying22 Tryf.underlying9 (by kernel_rfl) hL
      exact fnSignTextWalk n a cap W h2 h1 h3)

theorem fnSignText_holds : Rows.FnSignTextToldSaid :=
  Claim7.holds_of_told_tied_any_at .later 4 Tryf.f4 "fmt.Sprintf, its operands' methods called" [] [] _ _ _ _ _ (by kernel_rfl) rfl rfl rfl laidOut (by kernel_rfl) rfl ⟨rfl, rfl, rfl, rfl, rfl, rfl, rfl⟩ rfl rfl (by kernel_rfl) (by kernel_rfl) Tryf.func4 (by kernel_rfl)
    (of_decide_eq_true (by kernel_rfl)) (by unfold Func.isWrapper; first | (rw [if_pos (by decide +kernel)]; kernel_rfl) | (rw [if_neg (by decide +kernel)]; exact ⟨rfl, rfl⟩)) progStops.symm rfl progStopKnobs.symm (by kernel_rfl)
    (by kernel_rfl) (by kernel_rfl) (by kernel_rfl) (by kernel_rfl) (by kernel_rfl) (by kernel_rfl) (by kernel_rfl) (by kernel_rfl) (by kernel_rfl) rfl (by kernel_rfl) rfl rfl
    rfl rfl
    rfl (by kernel_rfl) (by kernel_rfl) (by kernel_rfl) (by decide) (by kernel_rfl) fnSignText_row_tie
    (OpenClaim.moreEntering_of (by kernel_rfl) (by kernel_rfl) (by kernel_rfl) (by kernel_rfl) (by kernel_rfl) (by kernel_rfl) (by kernel_rfl) (by kernel_rfl) (by kernel_rfl) (by kernel_rfl))
    ⟨_, WideRow.started_initial, progQuiet _⟩
    (fun os started _ H enc _ => fnSignText_lifted os started H enc)
#print axioms fnSignText_holds
end Go.Proofs.YtbfigfpaphajgaaFmt
