/-
  laws.trees, impl.list: lists of nodes, copied. Conditions: the lengths of the lists.
-/
import Derived.Test.YthppionkcfkafaaFmtNode
import Derived.Deep.AppendLies
namespace Go.Proofs.YthppionkcfkafaaFmt
open Go.ChangeShapes Go.WideShapes Go.ChangeAt Go.RowKit Go.Joins

theorem infoIN : (Tryf.prog.info? 24).map (fun i => (i.zero, i.size, i.bytes)) = some (some (.agg #[.int .i64 0, .string ByteArray.empty, .int .i64 0, .bool false, .slice none 0 0]), 5, 64) := by kernel_rfl
/-- A list of nodes in new memory. -/
def ListBack (w : World) (l : List Tr) (e : Ending) (w' : World) : Prop := ∃ v, e = .returned v ∧ Subs w' (fun k => w.heap.size ≤ k) l v
set_option maxRecDepth 100000 in
set_option maxHeartbeats 4000000 in
theorem trees_any {l : List Tr} {S : Nat → Prop} {w : World} {v : Value} (hs : Subs w S l v) (hl : l.length ≤ 2199023255488) (hb : ∀ x ∈ l, Bnd 2199023255488 x) :
    Calls Tryf.prog 10 #[v] w fun e w' => ListBack w l e w' ∧ Below w.heap.size w w' := by
  obtain ⟨a, cap, rfl, hcap⟩ := hs.form
  obtain ⟨i0, hi0, hz0, hs0, hb0⟩ := info_parts infoSN
  have H := Lib.hid hs; clear hs
  have HBL := Lib.hid hb; clear hb
  go_enter Tryf.func10, Tryf.ntmps10
  go_wp2_with fail
  go_loopw [3, 9] (fun v i wr => ∃ j, j ≤ l.length ∧ i = .int .i64 (j : Nat) ∧ OwnT (fun k => w.heap.size ≤ k) w.heap.size 28 wr v (l.take j) ∧ Below w.heap.size w wr) (fun _ i _ => l.length - (intOf i).toNat)
  case atStart =>
    exact ⟨0, Nat.zero_le _, rfl, ownT_empty (Nat.le_refl _) (heap_alloc_new _ _), below_alloc1 _ _⟩
  case round =>
    obtain ⟨j, hj, rfl, hO, hB⟩ := hrel
    obtain ⟨va, vc, rfl⟩ := hO.form
    rw [List.length_take, Nat.min_eq_left hj] at *
    by_cases hjl : j < l.length
    · obtain ⟨p, hp⟩ : ∃ p, l[j]? = some p := ⟨_, List.getElem?_eq_getElem hjl⟩
      obtain ⟨b, off, u, rfl, hSb, hlt, hu, c0, c1, c2, c3, c4⟩ := (H.out.bel hB).at_ hp
      obtain ⟨ua, uc, rfl, huc⟩ := hu.form
      have HP := Lib.hid hp; clear hp
      obtain ⟨xs, hown, hcs⟩ := hO
      rw [List.length_take, Nat.min_eq_left hj] at hown
      have HO := Lib.hid hown; clear hown
      have HC := Lib.hid hcs; clear hcs
      have HW1 := Lib.hid (below_alloc1 wr (.cells #[.int .i64 p.k, .string p.tx, .int .i64 p.op, .bool p.fl, .slice ua p.subs.length uc] 24))
      have HU := Lib.hid (hu.bel HW1.out); clear hu
      have HBP := Lib.hid (HBL.out p (List.mem_of_getElem? HP.out))
      have zw := hB.size
      have HB := Lib.hid hB; clear hB
      go_wp2_with fail
      clear c0 c1 c2 c3 c4
      refine (lawsTree_any p HU.out HBP.out).mono ?_
      rintro e w4 ⟨⟨u4, rfl, hs4⟩, hb4⟩
      obtain ⟨a4, c4, rfl, hc4⟩ := hs4.form
      have HS4 := Lib.hid hs4; clear hs4
      have HB4 := Lib.hid (HW1.out.trans (hb4.mono (by simp))); clear hb4
      have HB5 := Lib.hid (HB4.out.trans ((below_alloc1 w4 (.cells #[.int .i64 p.k, .string p.tx, .int .i64 p.op, .bool p.fl, .slice a4 p.subs.length c4] 28)).mono HB4.out.size))
      have HO5 := Lib.hid (ownsRow_below HO.out HB5.out)
      have HN5 := Lib.hid (nV_one HS4.out)
      have z4 : wr.heap.size ≤ w4.heap.size := HB4.out.size
      go_wp2_with (at_builtin; refine wpList_append_lies _ rfl (.tmp 13) (.tmp 16) 26 rfl w.heap.size 28 i0 (.agg #[.int .i64 0, .string ByteArray.empty, .int .i64 0, .bool false, .slice none 0 0]) 5 64 Tryf.underlying26 hi0 hz0 hs0 hb0 rfl (by omega) (.slice va j vc) j xs rfl HO5.out ⟨w4.heap.size, 0, none⟩ 1 1 (nV p (.slice a4 p.subs.length c4)) rfl rfl (news5 rfl) HN5.out (by omega) (by unfold maxLen; omega) (by omega) (by simp; omega) _ rfl ?_; intro g cap1 w6 hown6 hgrow6 hat6 hlt6)
      have hB5 := HB.out.trans (HB5.out.mono HB.out.size)
      have hS5 := (HS4.out.bel (below_alloc1 w4 (.cells #[.int .i64 p.k, .string p.tx, .int .i64 p.op, .bool p.fl, .slice a4 p.subs.length c4] 28))).mono (T := fun k => w.heap.size ≤ k ∧ (Value.slice va j vc).ownBlock ≠ some k) (fun k hk _ => ⟨by simp at hk; omega, fun e => by have := (HO.out.lt k e).2; simp at hk; omega⟩)
      have hO6 := OwnT.push (S := fun k => w.heap.size ≤ k) (HC.out.below HB5.out) hS5 hown6 (by rw [List.length_take, Nat.min_eq_left hj]) hgrow6 hat6
      rw [← take_snoc HP.out] at hO6
      have HO6 := Lib.hid hO6
      have HB6 := Lib.hid (hB5.grown hgrow6 hB5.size (fun k hk => by have := (HO5.out.lt k hk).1; omega))
      clear hB5 hS5 hO6 hown6 hgrow6 hat6
      go_wp2
      go_roundw
      case rel => exact ⟨j + 1, by omega, by go_num, HO6.out, HB6.out⟩
      case measure => simp [intOf]; omega
    · obtain rfl : j = l.length := by omega
      rw [List.take_length] at hO
      have HO := Lib.hid hO; clear hO
      go_wp2
      go_ret
      refine ⟨⟨_, rfl, HO.out.subs fun k hk => ?_⟩, hB⟩
      rcases hk with hk | hk
      · exact hk
      · obtain ⟨xs, ho, _⟩ := HO.out
        exact (ho.lt k hk).1
/-- A slice of nodes of package ast, and the trees that they point to. -/
def NodeRow (w : World) (l : List Tr) (v : Value) : Prop :=
  ∃ (b off cap : Nat) (a : Option Addr), v = .slice a l.length cap ∧ l.length ≤ cap ∧ (0 < l.length → a = some ⟨b, off, none⟩) ∧ ∀ i t, l[i]? = some t → ∃ y c, w.cell? ⟨b, off + i, none⟩ = some (.iface y (.pointer (some ⟨c, 0, none⟩))) ∧ NodeAt w t y c
theorem NodeAt.bel {w w' : World} {t : Tr} {y : TypeId} {b : Nat} (h : NodeAt w t y b) (hb : Below w.heap.size w w') : NodeAt w' t y b := fun w'' h'' => h w'' (hb.trans (h''.mono hb.size))
theorem NodeRow.bel {w w' : World} {l : List Tr} {v : Value} (h : NodeRow w l v) (hb : Below w.heap.size w w') : NodeRow w' l v := by
  obtain ⟨b, off, cap, a, h1, h2, h3, h4⟩ := h
  refine ⟨b, off, cap, a, h1, h2, h3, fun i t ht => ?_⟩
  obtain ⟨y, c, hc, hn⟩ := h4 i t ht
  exact ⟨y, c, (hb.cell (p := ⟨b, off + i, none⟩) (World.block_lt_of_cell? w _ hc)).trans hc, hn.bel hb⟩
set_option maxRecDepth 100000 in
set_option maxHeartbeats 4000000 in
theorem list_any {l : List Tr} {w : World} {v : Value} (hs : NodeRow w l v) (hl : l.length ≤ 2199023255488) :
    Calls Tryf.prog 18 #[v] w fun e w' => ListBack w l e w' ∧ Below w.heap.size w w' := by
  obtain ⟨b, off, cap, a, rfl, hcap, ha, hcell⟩ := hs
  obtain ⟨i0, hi0, hz0, hs0, hb0⟩ := info_parts infoIN
  have H := Lib.hid hcell; clear hcell
  have HA := Lib.hid ha; clear ha
  go_enter Tryf.func18, Tryf.ntmps18
  go_wp2_with fail
  go_loopw [3, 9] (fun v i wr => ∃ j, j ≤ l.length ∧ i = .int .i64 (j : Nat) ∧ OwnT (fun k => w.heap.size ≤ k) w.heap.size 24 wr v (l.take j) ∧ Below w.heap.size w wr) (fun _ i _ => l.length - (intOf i).toNat)
  case atStart =>
    exact ⟨0, Nat.zero_le _, rfl, ownT_empty (Nat.le_refl _) (heap_alloc_new _ _), below_alloc1 _ _⟩
  case round =>
    obtain ⟨j, hj, rfl, hO, hB⟩ := hrel
    obtain ⟨va, vc, rfl⟩ := hO.form
    rw [List.length_take, Nat.min_eq_left hj] at *
    by_cases hjl : j < l.length
    · obtain ⟨p, hp⟩ : ∃ p, l[j]? = some p := ⟨_, List.getElem?_eq_getElem hjl⟩
      obtain rfl := HA.out (by omega)
      obtain ⟨y, c, hc, hn⟩ := H.out j p hp
      have c0 := (hB.cell (p := ⟨b, off + j, none⟩) (World.block_lt_of_cell? w _ hc)).trans hc
      have HN := Lib.hid hn; clear hn hc
      have HP := Lib.hid hp; clear hp
      obtain ⟨xs, hown, hcs⟩ := hO
      rw [List.length_take, Nat.min_eq_left hj] at hown
      have HO := Lib.hid hown; clear hown
      have HC := Lib.hid hcs; clear hcs
      have zw := hB.size
      have HB := Lib.hid hB; clear hB
      go_wp2_with fail
      clear c0
      refine (HN.out _ HB.out).mono ?_
      rintro e w4 ⟨⟨u4, rfl, hs4⟩, hb4⟩
      obtain ⟨a4, c4, rfl, hc4⟩ := hs4.form
      have HS4 := Lib.hid hs4; clear hs4
      have HB4 := Lib.hid hb4; clear hb4
      have HB5 := Lib.hid (HB4.out.trans ((below_alloc1 w4 (.cells #[.int .i64 p.k, .string p.tx, .int .i64 p.op, .bool p.fl, .slice a4 p.subs.length c4] 24)).mono HB4.out.size))
      have HO5 := Lib.hid (ownsRow_below HO.out HB5.out)
      have HN5 := Lib.hid (nV_one HS4.out)
      have z4 : wr.heap.size ≤ w4.heap.size := HB4.out.size
      go_wp2_with (at_builtin; refine wpList_append_lies _ rfl (.tmp 13) (.tmp 16) 22 rfl w.heap.size 24 i0 (.agg #[.int .i64 0, .string ByteArray.empty, .int .i64 0, .bool false, .slice none 0 0]) 5 64 Tryf.underlying22 hi0 hz0 hs0 hb0 rfl (by omega) (.slice va j vc) j xs rfl HO5.out ⟨w4.heap.size, 0, none⟩ 1 1 (nV p (.slice a4 p.subs.length c4)) rfl rfl (news5 rfl) HN5.out (by omega) (by unfold maxLen; omega) (by omega) (by simp; omega) _ rfl ?_; intro g cap1 w6 hown6 hgrow6 hat6 hlt6)
      have hB5 := HB.out.trans (HB5.out.mono HB.out.size)
      have hS5 := (HS4.out.bel (below_alloc1 w4 (.cells #[.int .i64 p.k, .string p.tx, .int .i64 p.op, .bool p.fl, .slice a4 p.subs.length c4] 24))).mono (T := fun k => w.heap.size ≤ k ∧ (Value.slice va j vc).ownBlock ≠ some k) (fun k hk _ => ⟨by omega, fun e => by have := (HO.out.lt k e).2; omega⟩)
      have hO6 := OwnT.push (S := fun k => w.heap.size ≤ k) (HC.out.below HB5.out) hS5 hown6 (by rw [List.length_take, Nat.min_eq_left hj]) hgrow6 hat6
      rw [← take_snoc HP.out] at hO6
      have HO6 := Lib.hid hO6
      have HB6 := Lib.hid (hB5.grown hgrow6 hB5.size (fun k hk => by have := (HO5.out.lt k hk).1; omega))
      clear hB5 hS5 hO6 hown6 hgrow6 hat6
      go_wp2
      go_roundw
      case rel => exact ⟨j + 1, by omega, by go_num, HO6.out, HB6.out⟩
      case measure => simp [intOf]; omega
    · obtain rfl : j = l.length := by omega
      rw [List.take_length] at hO
      have HO := Lib.hid hO; clear hO
      go_wp2
      go_ret
      refine ⟨⟨_, rfl, HO.out.subs fun k hk => ?_⟩, hB⟩
      rcases hk with hk | hk
      · exact hk
      · obtain ⟨xs, ho, _⟩ := HO.out
        exact (ho.lt k hk).1
end Go.Proofs.YthppionkcfkafaaFmt
