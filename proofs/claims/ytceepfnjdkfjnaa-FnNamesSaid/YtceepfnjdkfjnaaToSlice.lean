/-
  ToSlice: the names of a set, each once, in whatever order. Conditions: how many steps were taken.
-/
import Derived.Test.YtceepfnjdkfjnaaSet
import Derived.Sort.KeysCollected
import Derived.Sort.OwnSorted
namespace Go.Proofs.Ytceepfnjdkfjnaa
open Go.ChangeShapes Go.WideShapes Go.ChangeAt Go.RowKit Go.Joins Go.Maps Go.Sort

theorem infoI : (Try.prog.info? 40).map (fun i => (i.zero, i.size, i.bytes)) = some (some (.string ByteArray.empty), 1, 16) := by kernel_rfl
theorem set_row {ss : List (List UInt8)} {x : List UInt8} {rest : List Value} (h : 0 < rest.length) : (strs ss ++ rest).set ss.length (encStr x) = strs (ss ++ [x]) ++ rest.tail := by
  match rest, h with
  | r :: rest, _ =>
    have e : ss.length = (strs ss).length := by simp [strs]
    rw [e, List.set_append_right _ _ (Nat.le_refl _)]
    simp [strs, str, encStr]
set_option maxRecDepth 100000 in
set_option maxHeartbeats 1000000 in
theorem toSlice_any {w : World} {B n : Nat} {l : List (List UInt8)} (h : SetIs w B n l) (hn : n ≤ 100000) :
    Calls Try.prog 15 #[.map (some B)] w fun e w' => (∃ v ss, e = .returned v ∧ OwnR 40 w.heap.size w' v (strs ss) ∧ ss.Nodup ∧ ss.length ≤ 100000 ∧ ∀ x, x ∈ ss ↔ x ∈ l) ∧ Below w.heap.size w w' := by
  obtain ⟨D, hown, hl⟩ := h
  have hsz := hown.size_le
  have hlt := hown.lt
  obtain ⟨i0, hi, hz0, hz1, hz2⟩ := info_parts infoI
  have HL := Lib.hid hl; clear hl
  go_enter Try.func15, Try.ntmps15
  go_wp2_with (first
    | (at_len; refine wpList_len_own _ rfl _ 37 rfl 40 44 Try.underlying37 _ B n _ rfl hown ?_)
    | (at_make; refine wpList_make_full _ rfl _ _ 46 rfl w.heap.size 40 i0 (.string ByteArray.empty) 1 Try.underlying46 hi hz0 hz1 _ _ _ _ (Maps.size D) rfl rfl rfl rfl (by rw [hz2]; omega) (by unfold maxLen; omega) (Nat.le_refl _) ?_; intro w1 hrow1 hg1)
    | (at_range; refine wpList_range_own _ rfl _ 37 rfl 40 44 lawI Try.underlying37 _ B n _ rfl (hown.kept hg1 (by simp)) ?_; intro w0 hrg0 hg0 hs0)
    | go_in)
  go_frame
  have HROW := Lib.hid (hrow1.kept hg0 (Or.inr (by simp [Value.ownBlock])))
  have HG1 := Lib.hid hg1.size
  have HB0 := Lib.hid (((Below.refl w.heap.size w).grown hg1 (Nat.le_refl _) (fun j hj => by cases hj)).grown hg0 hg1.size (fun j hj => by cases hj))
  clear hs0 hrow1 hg1 hg0
  go_loopw [4] (fun i wr => ∃ (left : Lit → Bool) (cnt : Nat) (ss : List (List UInt8)) (rest : List Value), i = .int .i64 ss.length ∧ wr.ranges Try.prog 40 unitElem B w1.heap.size n D left cnt ∧ ss.length + cnt ≤ Maps.size D ∧
      ss.length + rest.length = Maps.size D ∧ wr.ownsRow w.heap.size 40 1 (.slice (some ⟨w.heap.size, 0, none⟩) (Maps.size D) (Maps.size D)) (Maps.size D) (strs ss ++ rest) ∧ Collected D left ss ∧ Below w.heap.size w wr)
    (fun _ wr => wr.rangeLeft B w1.heap.size)
  case atStart =>
    exact ⟨_, _, [], _, rfl, hrg0, by simp, by have := HROW.out.1; simp only [Nat.mul_one] at this; simp only [List.length_nil, Nat.zero_add]; exact this, by have := HROW.out; simp only [Nat.mul_one] at this; exact this, Collected.start D, HB0.out⟩
  case round =>
    obtain ⟨left, cnt, ss, rest, rfl, hrg, hcs, hrl, hrow, hC, hnx⟩ := hrel
    have HRW := Lib.hid hrow
    have HC := Lib.hid hC
    have HRL := Lib.hid hrl
    clear hrow hC hrl
    go_wp2_with (first
      | (at_next; refine wpList_next_ranges _ rfl _ rfl 40 lawI unitElem encStr (fun _ : Unit => .agg #[]) (fun key kl hk => by obtain ⟨x, hx, _⟩ := Maps.keyOf_str Try.underlying40 hk; exact ⟨x, hx⟩) (fun v y hv => ⟨(), (unitElem_inv hv).1⟩) B w1.heap.size n _ _ _ rfl hrg ?_ ?_)
      | go_in)
    · intro hc0 hl0
      go_wp2
      go_ret
      have hp := HC.out.perm hrg.owns lawI Try.underlying40 hl0
      have hr0 : rest = [] := by
        have hk : (strKeys D).length = Maps.size D := by
          obtain ⟨es, rfl, _⟩ := hown.keysOf
          simp [strKeys, Maps.size]
        have h1 := hp.length_eq
        have h2 := HRL.out
        exact List.eq_nil_of_length_eq_zero (by omega)
      subst hr0
      have hss : ss.length = Maps.size D := by have := HRL.out; simpa using this
      have hrow := HRW.out
      rw [List.append_nil] at hrow
      have hl2 : (strs ss).length = Maps.size D := by simp [strs, hss]
      refine ⟨⟨_, ss, rfl, ⟨by rw [hl2]; exact hrow, w.heap.size, Maps.size D, by rw [hl2]; rfl⟩, HC.out.1, by omega, fun x => ?_⟩, hnx⟩
      rw [HC.out.2 x, hl0, HL.out x]
      simp
    · intro x kl yd yp w2 cnt2 hkey hlk hv hat hrg2 hlt2 hg2 hs2 hen
      obtain ⟨x', ex, rfl, _⟩ := Maps.keyOf_str Try.underlying40 hkey
      obtain rfl : x = x' := encStr_inj ex
      have hrow2 := HRW.out.kept hg2 (Or.inr (row_ne_iter HRW.out hrg).symm)
      have hlow : ss.length < Maps.size D := by omega
      have hpos : 0 < rest.length := by have := HRL.out; omega
      have hcell : ∃ u, w2.cell? ⟨w.heap.size, ss.length, none⟩ = some u := by
        rw [hrow2.cellAt ss.length (by omega)]
        exact ⟨_, List.getElem?_eq_getElem (by simp [strs]; omega)⟩
      obtain ⟨u, hu⟩ := hcell
      have hfz := hrow2.frozenAt ss.length
      have HR2 := Lib.hid hrow2
      have hix : (ss.length : Int) < (Maps.size D : Int) := by omega
      have HRG := Lib.hid hrg
      clear hs2 hrow2 hrg
      go_wp2
      have hst := HR2.out.stored ss.length (encStr x)
      rw [set_row hpos] at hst
      have hrg3 := hrg2.kept hst.2 (row_ne_low HR2.out hlt) (row_ne_iter HR2.out hrg2)
      go_roundw
      case rel =>
        exact ⟨_, cnt2, ss ++ [x], rest.tail, by simp, hrg3, by simp; omega, by have := HRL.out; simp; omega, hst.1, HC.out.step hlk hat, (hnx.grown hg2 hnx.size (fun j hj => by cases hj; exact HG1.out)).grown hst.2 (by have := hnx.size; have := hg2.size; omega) (fun j hj => by cases hj; exact Nat.le_refl _)⟩
      case measure => rw [hrg3.left_eq, HRG.out.left_eq]; exact hlt2
end Go.Proofs.Ytceepfnjdkfjnaa
