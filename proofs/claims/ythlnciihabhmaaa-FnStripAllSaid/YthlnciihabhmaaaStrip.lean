/-
  impl.IsClean, impl.StripAll, and the walks of FnIsClean and FnStripAll. Conditions: the arguments read as lists of pieces.
-/
import Derived.Test.YthlnciihabhmaaaVar
namespace Go.Proofs.Ythlnciihabhmaaa
open Go.ChangeShapes Go.WideShapes Go.ChangeAt Go.RowKit Go.Joins

theorem implIsClean {w : World} {v : Value} {ps : List Pc} {r : Bool} (h : Pcs pV w v ps) (hm : (ps.length : Int) ≤ 1000) (hn : ∀ q ∈ ps, q.ss.length ≤ 1000000) (hr : cleanB ps = r) :
    Calls Try.prog 11 #[v] w fun e w' => e = .returned (.bool r) ∧ Below w.heap.size w w' := by
  obtain ⟨a, cap, rfl⟩ := h.form
  have HP := Lib.hid h
  have HN := Lib.hid hn
  have HR := Lib.hid hr
  clear h hn hr
  go_enter Try.func11, Try.ntmps11
  go_wp2_with fail
  go_at_call 27
  refine (fodder_pcs HP.out (by omega) HN.out).mono ?_
  rintro e w2 ⟨⟨v1, rfl, ho⟩, hb2⟩
  obtain ⟨a1, cap1, rfl⟩ := ho.pcs.form
  have HO := Lib.hid ho.pcs; clear ho
  go_wp2_with fail
  go_at_call 26
  refine (cleanE_is HO.out (by omega) HR.out).mono ?_
  rintro e w' ⟨rfl, rfl⟩
  go_wp2
  go_ret
  exact ⟨rfl, hb2⟩

theorem stripE {w : World} {A B : Nat} {v : Value} (hA : Var w A 43 v) :
    Calls Try.prog 35 #[.pointer (some ⟨B, 0, none⟩), .iface 67 (.pointer (some ⟨B, 0, none⟩)), .pointer (some ⟨A, 0, none⟩), .nilIface] w fun e w' => e = .returned (.tuple #[]) ∧ w' = w.setCell ⟨A, 0, none⟩ (.slice none 0 0) := by
  have x0 := hA.cell
  have x1 := hA.free
  clear hA
  go_enter Try.func35, Try.ntmps35
  go_wp2
  go_end0
  exact ⟨rfl, rfl⟩
theorem nil_pcs {w : World} : Pcs eV w (.slice none 0 0) [] := ⟨none, 0, [], rfl, Nat.le_refl _, rfl, fun h => by simp at h⟩
theorem implStripAll {w : World} {v : Value} {ps : List Pc} (h : Pcs pV w v ps) (hm : (ps.length : Int) ≤ 1000) (hn : ∀ q ∈ ps, q.ss.length ≤ 1000000) :
    Calls Try.prog 21 #[v] w fun e w' => (∃ a cap, e = .returned (.slice a 0 cap)) ∧ Below w.heap.size w w' := by
  obtain ⟨a, cap, rfl⟩ := h.form
  have hB1 := below_alloc1 w (.cells #[] 69)
  have HP := Lib.hid (h.below hB1)
  have HN := Lib.hid hn
  clear h hn
  go_enter Try.func21, Try.ntmps21
  go_wp2_with fail
  refine (fodder_pcs HP.out (by omega) HN.out).mono ?_
  rintro e w2 ⟨⟨v1, rfl, ho⟩, hb2⟩
  obtain ⟨a1, cap1, rfl⟩ := ho.pcs.form
  clear ho
  have hB2 := hB1.trans (hb2.mono hB1.size)
  have hB3 := hB2.alloc hB2.size (.cells #[.slice a1 ps.length cap1] 43)
  have hV3 : Var (w2.alloc (.cells #[.slice a1 ps.length cap1] 43)) w2.heap.size 43 (.slice a1 ps.length cap1) := heap_alloc_new w2 _
  have HV3 := Lib.hid hV3; clear hV3
  go_wp2_with fail
  refine (stripE HV3.out).mono ?_
  rintro e w4 ⟨rfl, rfl⟩
  have hV4 := HV3.out.set_ (.slice none 0 0)
  have y0 := hV4.lt
  have y1 := hV4.cell
  have hB4 := hB2.alloc hB2.size (.cells #[.slice none 0 0] 43)
  clear hV4
  go_wp2_with fail
  refine (implPieces_pcs (ps := []) nil_pcs (by simp)).mono ?_
  rintro e w6 ⟨⟨v6, rfl, ho6⟩, hb6⟩
  obtain ⟨a6, cap6, rfl⟩ := ho6.pcs.form
  have hB6 := hB4.trans (hb6.mono hB4.size)
  clear ho6
  go_wp2
  go_ret
  exact ⟨⟨_, _, rfl⟩, hB6⟩
end Go.Proofs.Ythlnciihabhmaaa
