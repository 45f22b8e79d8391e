/-
  spec.Binds: how tight an operator binds. Conditions: none.
-/
import Derived.Test.YthppionkcfkafaaDoorLevel
namespace Go.Proofs.YthppionkcfkafaaDoor
open Go.ChangeShapes Go.WideShapes Go.ChangeAt Go.RowKit Go.Joins Go.WideElems Go.Maps

theorem thr_cell (j : Nat) (hj : j < 9) : ∃ x : Int, (#[Value.int .i64 3, .int .i64 5, .int .i64 7, .int .i64 12, .int .i64 14, .int .i64 15, .int .i64 16, .int .i64 17, .int .i64 18] : Array Value)[j]? = some (.int .i64 x) ∧
    ∀ k : Int, (j = 0 ∨ ∃ y : Int, (#[Value.int .i64 3, .int .i64 5, .int .i64 7, .int .i64 12, .int .i64 14, .int .i64 15, .int .i64 16, .int .i64 17, .int .i64 18] : Array Value)[j - 1]? = some (.int .i64 y) ∧ y ≤ k) → k < x → bindsF k = j := by
  obtain rfl | rfl | rfl | rfl | rfl | rfl | rfl | rfl | rfl : j = 0 ∨ j = 1 ∨ j = 2 ∨ j = 3 ∨ j = 4 ∨ j = 5 ∨ j = 6 ∨ j = 7 ∨ j = 8 := by omega
  all_goals
    refine ⟨_, rfl, fun k h hk => ?_⟩
    have hl : ∀ y : Int, y ≤ k → y ≤ k := fun _ h => h
    rcases h with h | ⟨y, hy, hyk⟩
    · first
        | omega
        | (unfold bindsF; rw [if_pos hk]; rfl)
    · first
        | (simp at hy; subst hy; unfold bindsF; (repeat' split) <;> first | omega | rfl)
        | (unfold bindsF; (repeat' split) <;> first | omega | rfl)
theorem binds_any (k : Int) (w : World) : Calls Tryd.prog 19 #[.int .i64 k] w fun e w' => e = .returned (.int .i64 (bindsF k)) ∧ Below w.heap.size w w' := by
  have HC := Lib.hid thr_cell
  have HN := Lib.hid (heap_alloc_new w (.cells #[Value.int .i64 3, .int .i64 5, .int .i64 7, .int .i64 12, .int .i64 14, .int .i64 15, .int .i64 16, .int .i64 17, .int .i64 18] 3))
  go_enter Tryd.func19, Tryd.ntmps19
  go_wp2
  go_loop [7] (fun i => ∃ j : Nat, j ≤ 9 ∧ i = .int .i64 j ∧ (j = 0 ∨ ∃ y : Int, (#[Value.int .i64 3, .int .i64 5, .int .i64 7, .int .i64 12, .int .i64 14, .int .i64 15, .int .i64 16, .int .i64 17, .int .i64 18] : Array Value)[j - 1]? = some (.int .i64 y) ∧ y ≤ k)) (fun i => 9 - (intOf i).toNat)
  case atStart => exact ⟨0, Nat.zero_le _, rfl, .inl rfl⟩
  case round =>
    obtain ⟨j, hj, rfl, hp⟩ := hrel
    have HP := Lib.hid hp; clear hp
    by_cases hjl : j < 9
    · obtain ⟨x, hx, hb⟩ := HC.out j hjl
      have HX := Lib.hid hx
      have cx : (w.alloc (.cells #[Value.int .i64 3, .int .i64 5, .int .i64 7, .int .i64 12, .int .i64 14, .int .i64 15, .int .i64 16, .int .i64 17, .int .i64 18] 3)).cell? ⟨w.heap.size, j, none⟩ = some (.int .i64 x) := by
        rw [← hx]
        exact cell_of_row _ _ _ _ _ _ HN.out
      have HB := Lib.hid hb
      clear hb hx
      by_cases hkx : k < x
      · go_wp2
        go_ret
        exact ⟨by rw [HB.out k HP.out hkx]; rfl, below_alloc1 _ _⟩
      · go_wp2
        go_round
        case rel => exact ⟨j + 1, by omega, by go_num, .inr ⟨x, HX.out, by omega⟩⟩
        case measure => simp [intOf]; omega
    · obtain rfl : j = 9 := by omega
      have h9 : bindsF k = 9 := by
        rcases HP.out with h | ⟨y, hy, hyk⟩
        · omega
        · simp at hy
          subst hy
          unfold bindsF
          (repeat' split) <;> omega
      have H9 := Lib.hid h9; clear h9
      go_wp2
      go_ret
      exact ⟨by rw [H9.out]; rfl, below_alloc1 _ _⟩
theorem binds_is {k u : Int} (w : World) (h : bindsF k = u) : Calls Tryd.prog 19 #[.int .i64 k] w fun e w' => e = .returned (.int .i64 u) ∧ Below w.heap.size w w' := h ▸ binds_any k w
end Go.Proofs.YthppionkcfkafaaDoor
