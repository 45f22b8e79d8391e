/-
  spec.IsName tells whether a text is a name. Conditions: none.
-/
import Derived.Test.YtlgajopaokjjaaaGreatFmtIdent2
namespace Go.Proofs.YtlgajopaokjjaaaGreatFmt
open Go.ChangeShapes Go.WideShapes Go.ChangeAt Go.RowKit Go.Joins
theorem sdigit_any (b : UInt8) (w : World) : Calls Tryz.prog 36 #[.int .u8 (b.toNat : Int)] w fun e w' => e = .returned (.bool (decide (48 ≤ (b.toNat : Int)) && decide ((b.toNat : Int) ≤ 57))) ∧ w = w' := by
  by_cases h1 : 48 ≤ (b.toNat : Int) <;> by_cases h2 : (b.toNat : Int) ≤ 57
  all_goals
    go_enter Tryz.func36, Tryz.ntmps36
    go_wp2
    go_ret
    exact ⟨by simp [*], rfl⟩
theorem sletter_any (b : UInt8) (w : World) : Calls Tryz.prog 35 #[.int .u8 (b.toNat : Int)] w fun e w' => e = .returned (.bool (firstR (b.toNat : Int))) ∧ w = w' := by
  unfold firstR
  generalize hx : ((b.toNat : Int) == 95) = x
  by_cases h1 : 97 ≤ (b.toNat : Int) <;> by_cases h2 : (b.toNat : Int) ≤ 122 <;> by_cases h3 : 65 ≤ (b.toNat : Int) <;> by_cases h4 : (b.toNat : Int) ≤ 90 <;> cases x
  all_goals
    go_enter Tryz.func35, Tryz.ntmps35
    go_wp2
    go_ret
    exact ⟨by simp [*], rfl⟩
/-- The words, as texts. -/
def keyA : List ByteArray := keyLit.map fun l => ⟨l.toArray⟩
theorem keyA_len : keyA.length = 18 := by decide
theorem keys_any (w : World) : Calls Tryz.prog 38 #[] w fun e w' => e = .returned (.slice (some ⟨w.heap.size, 0, none⟩) 18 18) ∧ w'.heap[w.heap.size]? = some (.cells (keyA.map Value.string).toArray 9) ∧ Below w.heap.size w w' := by
  go_enter Tryz.func38, Tryz.ntmps38
  go_wp2
  go_ret
  exact ⟨rfl, heap_alloc_new w _, below_alloc1 w _⟩
theorem keyA_list (j : Nat) : (keyA[j]?).map (fun k => k.toList) = keyLit[j]? := by
  unfold keyA
  rw [List.getElem?_map, Option.map_map]
  have : ((fun k : ByteArray => k.toList) ∘ fun l : List UInt8 => (⟨l.toArray⟩ : ByteArray)) = id := by
    funext l
    show ByteArray.toList ⟨l.toArray⟩ = l
    rw [toList_data]
  rw [this]; simp
set_option maxHeartbeats 800000 in
theorem has_any (g : Nat) (s : ByteArray) (w : World) (hg : w.heap[g]? = some (.cells (keyA.map Value.string).toArray 9)) : Calls Tryz.prog 37 #[.slice (some ⟨g, 0, none⟩) 18 18, .string s] w fun e w' => e = .returned (.bool (keyLit.contains s.toList)) ∧ w = w' := by
  have HG := Lib.hid hg
  clear hg
  go_enter Tryz.func37, Tryz.ntmps37
  go_wp2_with fail
  go_loopw [9] (fun i wr => ∃ j : Nat, j ≤ 18 ∧ i = .int .i64 j ∧ (keyLit.take j).contains s.toList = false ∧ wr = w) (fun i _ => 18 - (intOf i).toNat)
  case atStart => exact ⟨0, by omega, rfl, rfl, rfl⟩
  case round =>
    obtain ⟨j, hj, rfl, hno, rfl⟩ := hrel
    by_cases hjl : j < 18
    · obtain ⟨k, hk⟩ : ∃ k, keyA[j]? = some k := ⟨_, List.getElem?_eq_getElem (by rw [keyA_len]; exact hjl)⟩
      have hkl : keyLit[j]? = some k.toList := by rw [← keyA_list, hk]; rfl
      have c : wr.cell? ⟨g, j, none⟩ = some (.string k) := cell_of HG.out (by simp [hk])
      have htk := take_snoc hkl
      cases he : (k.toList == s.toList) with
      | true =>
        have HR := Lib.hid (show keyLit.contains s.toList = true by
          have e : k.toList = s.toList := by simpa using he
          rw [List.contains_iff_mem]
          exact e ▸ List.mem_of_getElem? hkl)
        clear hkl htk hk hno
        go_wp2
        go_ret
        exact ⟨by rw [HR.out]; rfl, rfl⟩
      | false =>
        have HN := Lib.hid (show (keyLit.take (j + 1)).contains s.toList = false by
          rw [htk]
          have h1 : s.toList ∉ keyLit.take j := by simpa using hno
          have h2 : k.toList ≠ s.toList := by simpa using he
          simp only [List.contains_eq_mem, List.mem_append, List.mem_singleton]
          simp [h1, Ne.symm h2])
        clear hkl htk hk hno
        go_wp2
        go_roundw
        case rel => exact ⟨j + 1, by omega, by go_num, HN.out, by first | rfl | trivial⟩
        case measure => simp [intOf]; omega
    · obtain rfl : j = 18 := by omega
      have HR := Lib.hid (show keyLit.contains s.toList = false from hno)
      clear hno
      go_wp2
      go_ret
      exact ⟨by rw [HR.out]; rfl, rfl⟩
end Go.Proofs.YtlgajopaokjjaaaGreatFmt
