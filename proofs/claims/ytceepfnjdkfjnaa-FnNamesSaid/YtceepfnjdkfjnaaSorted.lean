/-
  ToOrderedSlice: the names of a set, each once, in order. Conditions: how many steps were taken.
-/
import Derived.Test.YtceepfnjdkfjnaaToSlice
import Derived.Test.YtceepfnjdkfjnaaSteps
import Derived.Test.YtceepfnjdkfjnaaSortC
import Derived.Deep.QuietTactic
import Derived.RegionTactic
namespace Go.Proofs.Ytceepfnjdkfjnaa
open Go.ChangeShapes Go.WideShapes Go.ChangeAt Go.RowKit Go.Joins Go.Maps Go.Sort Go.Shelf Go.Lib

theorem len_reached (p : Option Addr) (n c : Nat) : Reaches Try.prog 49 (.slice p n c) "Len" 52 := ⟨fun _ => by kernel_rfl, enters_of Try.func52 (by kernel_rfl) rfl⟩
theorem less_reached (p : Option Addr) (n c : Nat) : Reaches Try.prog 49 (.slice p n c) "Less" 53 := ⟨fun _ => by kernel_rfl, enters_of Try.func53 (by kernel_rfl) rfl⟩
theorem swap_reached (p : Option Addr) (n c : Nat) : Reaches Try.prog 49 (.slice p n c) "Swap" 54 := ⟨fun _ => by kernel_rfl, enters_of Try.func54 (by kernel_rfl) rfl⟩
theorem ids_len (p : Option Addr) (n c : Nat) (W : World) : LenM Try.prog 52 (.slice p n c) n W := by
  unfold LenM
  go_enter Try.func52, Try.ntmps52
  go_wp2
  go_ret
  exact ⟨rfl, 0, rfl⟩
set_option maxHeartbeats 2000000 in
theorem ids_less (blk off c size : Nat) (W : World) (G : Nat → List UInt8) (hc : ∀ t, t < size → W.cell? ⟨blk, off + t, none⟩ = some (encStr (G t))) (i j : Nat) (hi : i < size) (hj : j < size) (_hsz : size < 4611686018427387904) :
    Calls Try.prog 53 #[.slice (some ⟨blk, off, none⟩) size c, .int .i64 i, .int .i64 j] W fun e w' => e = .returned (.bool (ltStr (G i) (G j))) ∧ ∃ q, w' = W.drewN q := by
  have ci := hc i hi
  have cj := hc j hj
  go_enter Try.func53, Try.ntmps53
  go_wp2
  go_quiet (fail)
  go_wp2
  go_ret
  exact ⟨by simp [ltStr, bytesLess_eq], nq, rfl⟩
set_option maxHeartbeats 2000000 in
theorem ids_swap (blk off c size : Nat) (W : World) (x y : List UInt8) (i j : Nat) (hi : i < size) (hj : j < size) (_hsz : size < 4611686018427387904)
    (ci : W.cell? ⟨blk, off + i, none⟩ = some (encStr x)) (cj : W.cell? ⟨blk, off + j, none⟩ = some (encStr y)) (fi : W.frozen? ⟨blk, off + i, none⟩ = false) (fj : W.frozen? ⟨blk, off + j, none⟩ = false) :
    Calls Try.prog 54 #[.slice (some ⟨blk, off, none⟩) size c, .int .i64 i, .int .i64 j] W fun e w' => e = .returned (.tuple #[]) ∧ ∃ q, w' = ((W.setCell ⟨blk, off + i, none⟩ (encStr y)).setCell ⟨blk, off + j, none⟩ (encStr x)).drewN q := by
  obtain ⟨v', hy'⟩ := cell?_setCell_some (w := W) (p := ⟨blk, off + i, none⟩) (x := encStr y) (q := ⟨blk, off + j, none⟩) cj
  go_enter Try.func54, Try.ntmps54
  go_wp2
  go_region
  all_goals (try go_wp2)
  all_goals go_end0
  all_goals exact ⟨rfl, 1, rfl⟩
theorem ids_lessM (blk off c : Nat) (d : Array (List UInt8)) (w : World) (hH : Holds encStr w blk off d) (hblk : blk < w.heap.size) (hsz : d.size < 4611686018427387904) :
    LessM Try.prog 53 (.slice (some ⟨blk, off, none⟩) d.size c) encStr ltStr blk off d.size w := fun m os dk hs i j hi hj =>
  ids_less blk off c d.size _ (fun t => dk[t]!) (fun t ht => ((holds_sortWorld encStr w blk off m d dk os hblk hH hs) t (by omega)).1) i j hi hj hsz
theorem ids_swapM (blk off c size : Nat) (hsz : size < 4611686018427387904) : SwapM Try.prog 54 (.slice (some ⟨blk, off, none⟩) size c) encStr blk off size := fun W dk hH hs i j hi hj =>
  ids_swap blk off c size W dk[i]! dk[j]! i j hi hj hsz (hH i (by omega)).1 (hH j (by omega)).1 (hH i (by omega)).2 (hH j (by omega)).2
/-- What the sort leaves is the names in order. -/
theorem sorted_is {ss l : List (List UInt8)} {d' : Array (List UInt8)} (hnd : ss.Nodup) (hm : ∀ x, x ∈ ss ↔ x ∈ l) (hl : InOrder Op.bytesLess l) (hP : PermIn 0 ss.length ss.toArray d') (hS : SortedIn ltStr 0 ss.length d') : d' = l.toArray := by
  obtain ⟨h1, _, h3⟩ := hP
  have hsz : d'.size = ss.length := by simpa using h1
  have hp : d'.toList.Perm ss := by
    have e1 : d'.extract 0 ss.length = d' := by rw [← hsz]; simp
    have e2 : ss.toArray.extract 0 ss.length = ss.toArray := by simp
    rw [e1, e2] at h3
    simpa using h3
  have hnd' : d'.toList.Nodup := hp.nodup_iff.2 hnd
  have ho : InOrder Op.bytesLess d'.toList := by
    refine List.pairwise_iff_getElem.2 fun i j hi hj hij => ?_
    have hi' : i < d'.size := by simpa using hi
    have hj' : j < d'.size := by simpa using hj
    have hs := hS i j (Nat.zero_le _) hij (by omega)
    rw [getElem!_pos d' i hi', getElem!_pos d' j hj'] at hs
    rcases ord_bytes.total d'.toList[i] d'.toList[j] with h | h | h
    · exact h
    · exact absurd h (fun e => by
        have := (List.nodup_iff_pairwise_ne.1 hnd')
        exact List.pairwise_iff_getElem.1 this i j hi hj hij e)
    · rw [bytesLess_eq] at h
      simp only [ltStr] at hs
      rw [Array.getElem_toList, Array.getElem_toList] at h
      rw [h] at hs
      cases hs
  have e : d'.toList = l := order_unique ord_bytes ho hl fun x => by rw [hp.mem_iff, hm]
  rw [← e]
theorem order_short {l : List (List UInt8)} (h : ¬ 2 ≤ l.length) : InOrder Op.bytesLess l := by
  match l, h with
  | [], _ => exact List.Pairwise.nil
  | [x], _ => exact List.pairwise_singleton _ _
  | x :: y :: r, h => exact absurd h (by simp)
set_option maxRecDepth 100000 in
set_option maxHeartbeats 1000000 in
theorem ordered_any {w : World} {B n : Nat} {l : List (List UInt8)} (h : SetIs w B n l) (hn : n ≤ 100000) (hl : InOrder Op.bytesLess l) :
    Calls Try.prog 14 #[.map (some B)] w fun e w' => (∃ v, e = .returned v ∧ OwnR 40 w.heap.size w' v (strs l)) ∧ Below w.heap.size w w' := by
  have H := Lib.hid h
  go_enter Try.func14, Try.ntmps14
  go_wp2_with fail
  refine (toSlice_any H.out hn).mono ?_
  rintro e w1 ⟨⟨v, ss, rfl, hown, hnd, hsl, hm⟩, hb⟩
  have hf := hown.form
  obtain ⟨g, cap, rfl, hbg, hg, hc⟩ := hf
  have hlen : (strs ss).length = ss.length := by simp [strs]
  rw [hlen] at hc hown ⊢
  have hrow := hown.1
  rw [hlen] at hrow
  rcases hrow.2 with ⟨h0, _⟩ | ⟨g', cap', cur, hv', _, hbk, h1, h2, h3, h4⟩
  · cases h0
  injection hv' with e1 _ e3
  injection e1 with e1
  injection e1 with e1
  subst e1 e3
  have HB := Lib.hid hb
  have HM := Lib.hid hm
  have HO := Lib.hid hown
  have hH : Holds encStr w1 g 0 ss.toArray := holds_of_block hbk (by rw [Nat.mul_one] at h4; exact h4)
  clear h4 hm hb
  by_cases h2' : 2 ≤ ss.length
  · have hS := Try.sort_Sort_sorted 49 (.slice (some ⟨g, 0, none⟩) ss.toArray.size cap) 52 53 54 (len_reached _ _ _) (less_reached _ _ _) (swap_reached _ _ _) encStr ltStr swo_ltStr
      g 0 ss.toArray (by simpa using h2') (by simp; omega) w1 (ids_len _ _ _ _) (ids_lessM g 0 cap ss.toArray w1 hH hg (by simp; omega)) (ids_swapM g 0 cap ss.toArray.size (by simp; omega)) hH hg
    simp only [List.size_toArray] at hS
    clear hH
    go_wp2_with (go_at_call 16; refine hS.mono ?_; rintro e w' ⟨rfl, d', nn, os, hP, hSo, rfl⟩)
    go_ret
    obtain rfl := sorted_is hnd HM.out hl hP hSo
    have hll : l.length = ss.length := by simpa using hP.1
    refine ⟨⟨_, rfl, ?_, g, cap, by simp [strs, hll]⟩, HB.out.grown (grownBy_sorted _) HB.out.size (fun j hj => by cases hj; exact hbg)⟩
    have hr := ownsRow_sorted (os := os) (n := nn) (base := w.heap.size) hll hbg hbk h1 h2 h3
    have e : (strs l).length = ss.length := by simp [strs, hll]
    rw [e]
    exact hr
  · have hT := Try.sort_Sort_tiny (α := List UInt8) 49 (.slice (some ⟨g, 0, none⟩) ss.length cap) 52 (len_reached _ _ _) ss.length (by omega) w1 (ids_len _ _ _ _)
    clear hH
    go_wp2_with (go_at_call 16; refine hT.mono ?_; rintro e w' ⟨rfl, q, rfl⟩)
    go_ret
    have e := order_unique ord_bytes (order_short h2') hl HM.out
    have hB := HB.out
    refine ⟨⟨_, rfl, ?_⟩, ⟨hB.os, hB.tape, hB.output, hB.size, hB.block⟩⟩
    show OwnR 40 w.heap.size (w1.drewN q) (.slice (some ⟨g, 0, none⟩) ss.length cap) (strs l)
    rw [← e]
    exact HO.out
end Go.Proofs.Ytceepfnjdkfjnaa
