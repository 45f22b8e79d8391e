/-
  sort.Sort: the library's contracts at this program (written by the kit's own command).
-/
import Derived.Shelf.GgSortMore.SortSort
import Derived.Test.YtceepfnjdkfjnaaProg
namespace Go.Proofs
open Go.Shelf
def Try.laysGt11_ren : Go.Shelf.Ren := ⟨fun | 11 => 16 | 17 => 17 | 18 => 18 | 31 => 19 | 32 => 20 | 33 => 21 | 34 => 22 | 35 => 23 | 36 => 24 | 37 => 25 | 38 => 26 | 39 => 27 | 40 => 28 | 43 => 29 | 44 => 30 | 45 => 31 | 46 => 32 | 47 => 33 | 50 => 34 | n => n, fun | 45 => 51 | 3 => 3 | 4 => 4 | 47 => 54 | 0 => 0 | 56 => 57 | 58 => 59 | 61 => 62 | 60 => 61 | 65 => 67 | 5 => 5 | 9 => 9 | 67 => 70 | 71 => 74 | 73 => 76 | 74 => 77 | 43 => 52 | 26 => 65 | 38 => 69 | n => n, fun | n => n⟩
theorem Try.laysGt11 : Go.Proofs.LaysGt.n11 Try.prog Try.laysGt11_ren := {
  mixed := by kernel_rfl
  f11 := Try.func16.trans (congrArg some (by kernel_rfl))
  f17 := Try.func17.trans (congrArg some (by kernel_rfl))
  f18 := Try.func18.trans (congrArg some (by kernel_rfl))
  f31 := Try.func19.trans (congrArg some (by kernel_rfl))
  f32 := Try.func20.trans (congrArg some (by kernel_rfl))
  f33 := Try.func21.trans (congrArg some (by kernel_rfl))
  f34 := Try.func22.trans (congrArg some (by kernel_rfl))
  f35 := Try.func23.trans (congrArg some (by kernel_rfl))
  f36 := Try.func24.trans (congrArg some (by kernel_rfl))
  f37 := Try.func25.trans (congrArg some (by kernel_rfl))
  f38 := Try.func26.trans (congrArg some (by kernel_rfl))
  f39 := Try.func27.trans (congrArg some (by kernel_rfl))
  f40 := Try.func28.trans (congrArg some (by kernel_rfl))
  f43 := Try.func29.trans (congrArg some (by kernel_rfl))
  f44 := Try.func30.trans (congrArg some (by kernel_rfl))
  f45 := Try.func31.trans (congrArg some (by kernel_rfl))
  f46 := Try.func32.trans (congrArg some (by kernel_rfl))
  f47 := Try.func33.trans (congrArg some (by kernel_rfl))
  f50 := Try.func34.trans (congrArg some (by kernel_rfl))
  t0 := Try.underlying0
  a0 := Try.isAgg0
  z0 := Try.sizeOf0
  v0 := Try.zeroValue0
  i0 := by kernel_rfl
  t3 := Try.underlying3
  a3 := Try.isAgg3
  z3 := Try.sizeOf3
  v3 := Try.zeroValue3
  i3 := by kernel_rfl
  t4 := Try.underlying4
  a4 := Try.isAgg4
  z4 := Try.sizeOf4
  v4 := Try.zeroValue4
  i4 := by kernel_rfl
  t5 := Try.underlying5
  a5 := Try.isAgg5
  z5 := Try.sizeOf5
  v5 := Try.zeroValue5
  i5 := by kernel_rfl
  t9 := Try.underlying9
  a9 := Try.isAgg9
  z9 := Try.sizeOf9
  v9 := Try.zeroValue9
  i9 := by kernel_rfl
  t26 := Try.underlying65
  a26 := Try.isAgg65
  z26 := Try.sizeOf65
  v26 := Try.zeroValue65
  i26 := by kernel_rfl
  t38 := Try.underlying69
  a38 := Try.isAgg69
  z38 := Try.sizeOf69
  v38 := Try.zeroValue69
  i38 := by kernel_rfl
  t43 := Try.underlying52
  a43 := Try.isAgg52
  z43 := Try.sizeOf52
  v43 := Try.zeroValue52
  i43 := by kernel_rfl
  t45 := Try.underlying51
  a45 := Try.isAgg51
  z45 := Try.sizeOf51
  v45 := Try.zeroValue51
  i45 := by kernel_rfl
  t47 := Try.underlying54
  a47 := Try.isAgg54
  z47 := Try.sizeOf54
  v47 := Try.zeroValue54
  i47 := by kernel_rfl
  t56 := Try.underlying57
  a56 := Try.isAgg57
  z56 := Try.sizeOf57
  v56 := Try.zeroValue57
  i56 := by kernel_rfl
  t58 := Try.underlying59
  a58 := Try.isAgg59
  z58 := Try.sizeOf59
  v58 := Try.zeroValue59
  i58 := by kernel_rfl
  t60 := Try.underlying61
  a60 := Try.isAgg61
  z60 := Try.sizeOf61
  v60 := Try.zeroValue61
  i60 := by kernel_rfl
  t61 := Try.underlying62
  a61 := Try.isAgg62
  z61 := Try.sizeOf62
  v61 := Try.zeroValue62
  i61 := by kernel_rfl
  t65 := Try.underlying67
  a65 := Try.isAgg67
  z65 := Try.sizeOf67
  v65 := Try.zeroValue67
  i65 := by kernel_rfl
  t67 := Try.underlying70
  a67 := Try.isAgg70
  z67 := Try.sizeOf70
  v67 := Try.zeroValue70
  i67 := by kernel_rfl
  t71 := Try.underlying74
  a71 := Try.isAgg74
  z71 := Try.sizeOf74
  v71 := Try.zeroValue74
  i71 := by kernel_rfl
  t73 := Try.underlying76
  a73 := Try.isAgg76
  z73 := Try.sizeOf76
  v73 := Try.zeroValue76
  i73 := by kernel_rfl
  t74 := Try.underlying77
  a74 := Try.isAgg77
  z74 := Try.sizeOf77
  v74 := Try.zeroValue77
  i74 := by kernel_rfl }
open Go.RowKit Go.Lib Go.Sort in
theorem Try.sort_Sort_tiny {α : Type} [Inhabited α] (T : TypeId) (rv : Value) (gn : Nat) (rN : Reaches Try.prog T rv "Len" gn) (n : Nat) (hn : n ≤ 1) (w : World) (hlen : LenM Try.prog gn rv n w) :
    Calls Try.prog 16 #[.iface T rv] w fun e w' => e = .returned (.tuple #[]) ∧ ∃ q, w' = w.drewN q := Any.sort_Sort_tiny Try.laysGt11 T rv gn rN n hn w hlen
open Go.RowKit Go.Lib Go.Sort in
/-- **sort.Sort, IN THE DOCUMENTATION's OWN TERMS ("Sort sorts data in ascending order as determined by the Less method. .. The sort is not guaranteed to be stable"): A PERMUTATION OF WHAT THE ROW HELD, SORTED BY 'lt'.** (LAID: no walk: one application.) -/
theorem Try.sort_Sort_sorted {α : Type} [Inhabited α] (T : TypeId) (rv : Value) (gn gl gs : Nat) (rN : Reaches Try.prog T rv "Len" gn) (rL : Reaches Try.prog T rv "Less" gl) (rS : Reaches Try.prog T rv "Swap" gs) (enc : α → Value) (lt : α → α → Bool) (hO : SWO lt) (blk off : Nat) (d : Array α) (h2 : 2 ≤ d.size) (hsz : d.size < 4611686018427387904) (w : World) (hlen : LenM Try.prog gn rv d.size w) (hless : LessM Try.prog gl rv enc lt blk off d.size w) (hswap : SwapM Try.prog gs rv enc blk off d.size) (hH : Holds enc w blk off d) (hblk : blk < w.heap.size) :
    Calls Try.prog 16 #[.iface T rv] w fun e w' => e = .returned (.tuple #[]) ∧ ∃ d' n os, PermIn 0 d.size d d' ∧ SortedIn lt 0 d.size d' ∧ w' = grow (putRow enc (Sort.ahead w n) blk off d') os := Any.sort_Sort_sorted Try.laysGt11 T rv gn gl gs rN rL rS enc lt hO blk off d h2 hsz w hlen hless hswap hH hblk
end Go.Proofs
