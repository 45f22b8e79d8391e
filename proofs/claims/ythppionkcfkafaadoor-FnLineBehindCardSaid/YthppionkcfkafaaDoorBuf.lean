/-
  bytes.Buffer's WriteRune, String and Reset: the library's contracts at this program (written by the kit's own command).
-/
import Derived.Shelf.Bytes.String
import Derived.Shelf.Bytes.BufferK
import Derived.Shelf.Wr.WriteRune
import Derived.Test.YthppionkcfkafaaDoorProg
namespace Go.Proofs
open Go.Shelf
def Tryd.laysM182_ren : Go.Shelf.Ren := ⟨fun | 182 => 34 | n => n, fun | 130 => 170 | 9 => 9 | 4 => 4 | 0 => 0 | 93 => 133 | 37 => 129 | 3 => 3 | 91 => 131 | 5 => 5 | n => n, fun | n => n⟩
theorem Tryd.laysM182 : Go.Proofs.LaysM.n182 Tryd.prog Tryd.laysM182_ren := {
  mixed := by kernel_rfl
  f182 := Tryd.func34.trans (congrArg some (by kernel_rfl))
  t0 := Tryd.underlying0
  a0 := Tryd.isAgg0
  z0 := Tryd.sizeOf0
  v0 := Tryd.zeroValue0
  t3 := Tryd.underlying3
  a3 := Tryd.isAgg3
  z3 := Tryd.sizeOf3
  v3 := Tryd.zeroValue3
  t4 := Tryd.underlying4
  a4 := Tryd.isAgg4
  z4 := Tryd.sizeOf4
  v4 := Tryd.zeroValue4
  t9 := Tryd.underlying9
  a9 := Tryd.isAgg9
  z9 := Tryd.sizeOf9
  v9 := Tryd.zeroValue9
  t37 := Tryd.underlying129
  a37 := Tryd.isAgg129
  z37 := Tryd.sizeOf129
  v37 := Tryd.zeroValue129
  t93 := Tryd.underlying133
  a93 := Tryd.isAgg133
  z93 := Tryd.sizeOf133
  v93 := Tryd.zeroValue133
  t130 := Tryd.underlying170
  a130 := Tryd.isAgg170
  z130 := Tryd.sizeOf170
  v130 := Tryd.zeroValue170
  t5 := Tryd.underlying5
  a5 := Tryd.isAgg5
  z5 := Tryd.sizeOf5
  v5 := Tryd.zeroValue5
  t91 := Tryd.underlying131
  a91 := Tryd.isAgg131
  z91 := Tryd.sizeOf131
  v91 := Tryd.zeroValue131
  i0 := by kernel_rfl
  i3 := by kernel_rfl
  i4 := by kernel_rfl
  i5 := by kernel_rfl
  i9 := by kernel_rfl
  i37 := by kernel_rfl
  i91 := by kernel_rfl
  i93 := by kernel_rfl
  i130 := by kernel_rfl }
open Go.RowKit in
/-- (*bytes.Buffer).String: "String returns the contents of the unread portion of the buffer as a string.": THE BYTES THAT WERE WRITTEN. The world is as it was but for the count of draws (the statement has two reads: its order is drawn). (LAID: no walk: one application.) -/
theorem Tryd.Buffer_String (B b : Nat) (l : List UInt8) (w : World) (h : Lib.IsBuffer 133 5 B b (Lib.byteCells l) w) :
    Calls Tryd.prog 34 #[.pointer (some ⟨b, 0, none⟩)] w fun e w' => e = .returned (.string ⟨l.toArray⟩) ∧ ∃ n, w' = w.drewN n := Any.Buffer_String Tryd.laysM182 B b l w h
def Tryd.laysM184_ren : Go.Shelf.Ren := ⟨fun | 184 => 35 | n => n, fun | 130 => 170 | 0 => 0 | 93 => 133 | 37 => 129 | 3 => 3 | 91 => 131 | 5 => 5 | n => n, fun | n => n⟩
theorem Tryd.laysM184 : Go.Proofs.LaysM.n184 Tryd.prog Tryd.laysM184_ren := {
  mixed := by kernel_rfl
  f184 := Tryd.func35.trans (congrArg some (by kernel_rfl))
  t0 := Tryd.underlying0
  a0 := Tryd.isAgg0
  z0 := Tryd.sizeOf0
  v0 := Tryd.zeroValue0
  t3 := Tryd.underlying3
  a3 := Tryd.isAgg3
  z3 := Tryd.sizeOf3
  v3 := Tryd.zeroValue3
  t37 := Tryd.underlying129
  a37 := Tryd.isAgg129
  z37 := Tryd.sizeOf129
  v37 := Tryd.zeroValue129
  t91 := Tryd.underlying131
  a91 := Tryd.isAgg131
  z91 := Tryd.sizeOf131
  v91 := Tryd.zeroValue131
  t93 := Tryd.underlying133
  a93 := Tryd.isAgg133
  z93 := Tryd.sizeOf133
  v93 := Tryd.zeroValue133
  t130 := Tryd.underlying170
  a130 := Tryd.isAgg170
  z130 := Tryd.sizeOf170
  v130 := Tryd.zeroValue170
  t5 := Tryd.underlying5
  a5 := Tryd.isAgg5
  z5 := Tryd.sizeOf5
  v5 := Tryd.zeroValue5
  i0 := by kernel_rfl
  i3 := by kernel_rfl
  i5 := by kernel_rfl
  i37 := by kernel_rfl
  i91 := by kernel_rfl
  i93 := by kernel_rfl
  i130 := by kernel_rfl }
open Go.RowKit in
theorem Tryd.Buffer_Reset_k (B b : Nat) (bs : List Value) (w : World) (h : Lib.IsBuffer 133 5 B b bs w) :
    Calls Tryd.prog 35 #[.pointer (some ⟨b, 0, none⟩)] w fun e w' => e = .returned (.tuple #[]) ∧ Lib.IsBuffer 133 5 B b [] w' ∧ Below B w w' ∧ Lib.OthersKept 5 (some b) w w' := Any.Buffer_Reset_k Tryd.laysM184 B b bs w h
open Go.RowKit in
def Tryd.laysWr5_ren : Go.Shelf.Ren := ⟨fun | 5 => 33 | 7 => 38 | 8 => 39 | 9 => 40 | 10 => 41 | 11 => 42 | 12 => 35 | 13 => 43 | 14 => 44 | 15 => 45 | n => n, fun | 34 => 170 | 21 => 21 | 3 => 3 | 28 => 135 | 35 => 171 | 4 => 4 | 5 => 5 | 0 => 0 | 26 => 133 | 24 => 131 | 37 => 173 | 22 => 129 | 43 => 178 | 20 => 20 | 31 => 138 | 9 => 9 | n => n, fun | 0 => 1 | n => n⟩
theorem Tryd.laysWr5 : Go.Proofs.LaysWr.n5 Tryd.prog Tryd.laysWr5_ren := {
  mixed := by kernel_rfl
  f5 := Tryd.func33.trans (congrArg some (by kernel_rfl))
  f7 := Tryd.func38.trans (congrArg some (by kernel_rfl))
  f8 := Tryd.func39.trans (congrArg some (by kernel_rfl))
  f9 := Tryd.func40.trans (congrArg some (by kernel_rfl))
  f10 := Tryd.func41.trans (congrArg some (by kernel_rfl))
  f11 := Tryd.func42.trans (congrArg some (by kernel_rfl))
  f12 := Tryd.func35.trans (congrArg some (by kernel_rfl))
  f13 := Tryd.func43.trans (congrArg some (by kernel_rfl))
  f14 := Tryd.func44.trans (congrArg some (by kernel_rfl))
  f15 := Tryd.func45.trans (congrArg some (by kernel_rfl))
  t0 := Tryd.underlying0
  a0 := Tryd.isAgg0
  z0 := Tryd.sizeOf0
  v0 := Tryd.zeroValue0
  i0 := by kernel_rfl
  t3 := Tryd.underlying3
  a3 := Tryd.isAgg3
  z3 := Tryd.sizeOf3
  v3 := Tryd.zeroValue3
  i3 := by kernel_rfl
  t4 := Tryd.underlying4
  a4 := Tryd.isAgg4
  z4 := Tryd.sizeOf4
  v4 := Tryd.zeroValue4
  i4 := by kernel_rfl
  t5 := Tryd.underlying5
  a5 := Tryd.isAgg5
  z5 := Tryd.sizeOf5
  v5 := Tryd.zeroValue5
  i5 := by kernel_rfl
  t9 := Tryd.underlying9
  a9 := Tryd.isAgg9
  z9 := Tryd.sizeOf9
  v9 := Tryd.zeroValue9
  i9 := by kernel_rfl
  t20 := Tryd.underlying20
  a20 := Tryd.isAgg20
  z20 := Tryd.sizeOf20
  v20 := Tryd.zeroValue20
  i20 := by kernel_rfl
  t21 := Tryd.underlying21
  a21 := Tryd.isAgg21
  z21 := Tryd.sizeOf21
  v21 := Tryd.zeroValue21
  i21 := by kernel_rfl
  t22 := Tryd.underlying129
  a22 := Tryd.isAgg129
  z22 := Tryd.sizeOf129
  v22 := Tryd.zeroValue129
  i22 := by kernel_rfl
  t24 := Tryd.underlying131
  a24 := Tryd.isAgg131
  z24 := Tryd.sizeOf131
  v24 := Tryd.zeroValue131
  i24 := by kernel_rfl
  t26 := Tryd.underlying133
  a26 := Tryd.isAgg133
  z26 := Tryd.sizeOf133
  v26 := Tryd.zeroValue133
  i26 := by kernel_rfl
  t28 := Tryd.underlying135
  a28 := Tryd.isAgg135
  z28 := Tryd.sizeOf135
  v28 := Tryd.zeroValue135
  i28 := by kernel_rfl
  t31 := Tryd.underlying138
  a31 := Tryd.isAgg138
  z31 := Tryd.sizeOf138
  v31 := Tryd.zeroValue138
  i31 := by kernel_rfl
  t34 := Tryd.underlying170
  a34 := Tryd.isAgg170
  z34 := Tryd.sizeOf170
  v34 := Tryd.zeroValue170
  i34 := by kernel_rfl
  t35 := Tryd.underlying171
  a35 := Tryd.isAgg171
  z35 := Tryd.sizeOf171
  v35 := Tryd.zeroValue171
  i35 := by kernel_rfl
  t37 := Tryd.underlying173
  a37 := Tryd.isAgg173
  z37 := Tryd.sizeOf173
  v37 := Tryd.zeroValue173
  i37 := by kernel_rfl
  t43 := Tryd.underlying178
  a43 := Tryd.isAgg178
  z43 := Tryd.sizeOf178
  v43 := Tryd.zeroValue178
  i43 := by kernel_rfl
  g0 := by kernel_rfl
  m0 := by kernel_rfl }
open Go.RowKit in
/-- (*bytes.Buffer).WriteRune, AT EVERY RUNE: (the number of its bytes, nil); THE BUFFER HOLDS THEM BEHIND WHAT IT HELD. The frames: as '_k'. NO WALK: the two roads as one. (LAID: no walk: one application.) -/
theorem Tryd.Buffer_WriteRune_k (B b : Nat) (bs : List Value) (r : Int) (hr0 : -2147483648 ≤ r) (hr1 : r ≤ 2147483647) (w : World) (h : Lib.IsBuffer 133 5 B b bs w) (hBw : B ≤ w.heap.size) (h1 : ∀ v ∈ bs, v.oneCell' = true) (hlim : bs.length + 4 ≤ 140737488355328) :
    Calls Tryd.prog 33 #[.pointer (some ⟨b, 0, none⟩), .int .i32 r] w fun e w' => e = .returned (.tuple #[.int .i64 (Lib.runeCells r).length, .nilIface]) ∧ Lib.IsBuffer 133 5 B b (bs ++ Lib.runeCells r) w' ∧ Below B w w' ∧ Lib.OthersKept 5 (some b) w w' := Any.Buffer_WriteRune_k Tryd.laysWr5 B b bs r hr0 hr1 w h hBw h1 hlim
end Go.Proofs
