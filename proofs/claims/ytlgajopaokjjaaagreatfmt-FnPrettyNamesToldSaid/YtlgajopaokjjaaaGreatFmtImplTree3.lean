/-
  impl.tree, of conditions. Conditions: spec.Tree's.
-/
import Derived.Test.YtlgajopaokjjaaaGreatFmtImplTree2
namespace Go.Proofs.YtlgajopaokjjaaaGreatFmt
open Go.ChangeShapes Go.WideShapes Go.ChangeAt Go.RowKit Go.Joins

set_option maxRecDepth 100000 in
set_option maxHeartbeats 8000000 in
theorem tree_if2 (t1 t2 : Tr) (T1 : TreeOk t1) (T2 : TreeOk t2) : TreeOk (.mk 10 ByteArray.empty 0 false [t1, t2]) := by
  intro S w u hs
  obtain ⟨a, cap, rfl, hcap⟩ := hs.form
  have hs : Subs w S [t1, t2] (.slice a 2 cap) := hs
  show Calls Tryz.prog 11 #[.agg #[.int .i64 10, .string ByteArray.empty, .int .i64 0, .bool false, .slice a 2 cap]] w _
  have hB := (below_alloc1 w (.cells #[.int .i64 10, .string ByteArray.empty, .int .i64 0, .bool false, .slice a 2 cap] 24)).drew
  have HS := Lib.hid (hs.bel hB); clear hs
  have HX := Lib.hid (box5_new w (.int .i64 10) (.string ByteArray.empty) (.int .i64 0) (.bool false) (.slice a 2 cap) 24)
  go_enter Tryz.func11, Tryz.ntmps11
  go_wp2_with fail
  go_region_law ((first
    | (refine step_call (by rfl) (sub_mk (k := 10) (tx := ByteArray.empty) (op := 0) (fl := false) T1 0 0 rfl rfl HS.out) ?_ ?_; (focus (go_simp; done)); rintro e w4 ⟨⟨y1, b1, rfl, hA1⟩, hb1⟩; refine ⟨_, rfl, ?_⟩; have HX4 := Lib.hid (HX.out.below hb1); obtain ⟨⟨x0, x1, x2, x3, x4⟩, xl⟩ := HX4.out; have HA1 := Lib.hid (hA1.mono (T := fun k => w.heap.size < k ∧ k < w4.heap.size) (fun k hk _ => ⟨by have := hk.1; simp at this; omega, hk.2⟩)); clear hA1; have HB4 := Lib.hid (hB.trans (hb1.mono hB.size)); have HS4 := Lib.hid (HS.out.bel hb1); clear hb1)
    | (refine step_call (by rfl) (sub_mk (k := 10) (tx := ByteArray.empty) (op := 0) (fl := false) T2 1 1 rfl rfl HS4.out) ?_ ?_; (focus (go_simp; done)); rintro e w5 ⟨⟨y2, b2, rfl, hA2⟩, hb2⟩; refine ⟨_, rfl, ?_⟩; have HX5 := Lib.hid (HX4.out.below hb2); obtain ⟨⟨x0, x1, x2, x3, x4⟩, xl⟩ := HX5.out; have HA2 := Lib.hid hA2; clear hA2; have HA1 := Lib.hid (HA1.out.bel hb2); have HB5 := Lib.hid (HB4.out.trans (hb2.mono HB4.out.size)); have HZ5 := Lib.hid hb2.size; have HS5 := Lib.hid (HS4.out.bel hb2); clear hb2)))
  all_goals
    have hz4 := HB4.out.size
    have hz5 := HZ5.out
    go_wp2
    go_ret
    exact ⟨⟨_, _, rfl, .if2 (S1 := fun k => w.heap.size < k ∧ k < w4.heap.size) (S2 := fun k => w4.heap.size ≤ k ∧ k < w5.heap.size) _ none none none none 0 0 0 0 ⟨by omega, by simp⟩ (fun k hk => ⟨⟨by omega, by simp; omega⟩, by omega⟩) (fun k hk => ⟨⟨by omega, by simp; omega⟩, by omega⟩) (fun k hk hk' => by omega) (heap_alloc_new _ _) (HA1.out.bel (below_alloc1 _ _)) (HA2.out.bel (below_alloc1 _ _))⟩, HB5.out.trans ((below_alloc1 _ _).mono HB5.out.size)⟩
set_option maxRecDepth 100000 in
set_option maxHeartbeats 8000000 in
theorem tree_if3 (t1 t2 t3 : Tr) (T1 : TreeOk t1) (T2 : TreeOk t2) (T3 : TreeOk t3) : TreeOk (.mk 10 ByteArray.empty 0 false [t1, t2, t3]) := by
  intro S w u hs
  obtain ⟨a, cap, rfl, hcap⟩ := hs.form
  have hs : Subs w S [t1, t2, t3] (.slice a 3 cap) := hs
  show Calls Tryz.prog 11 #[.agg #[.int .i64 10, .string ByteArray.empty, .int .i64 0, .bool false, .slice a 3 cap]] w _
  have hB := (below_alloc1 w (.cells #[.int .i64 10, .string ByteArray.empty, .int .i64 0, .bool false, .slice a 3 cap] 24)).drew
  have HS := Lib.hid (hs.bel hB); clear hs
  have HX := Lib.hid (box5_new w (.int .i64 10) (.string ByteArray.empty) (.int .i64 0) (.bool false) (.slice a 3 cap) 24)
  go_enter Tryz.func11, Tryz.ntmps11
  go_wp2_with fail
  go_region_law ((first
    | (refine step_call (by rfl) (sub_mk (k := 10) (tx := ByteArray.empty) (op := 0) (fl := false) T1 0 0 rfl rfl HS.out) ?_ ?_; (focus (go_simp; done)); rintro e w4 ⟨⟨y1, b1, rfl, hA1⟩, hb1⟩; refine ⟨_, rfl, ?_⟩; have HX4 := Lib.hid (HX.out.below hb1); obtain ⟨⟨x0, x1, x2, x3, x4⟩, xl⟩ := HX4.out; have HA1 := Lib.hid (hA1.mono (T := fun k => w.heap.size < k ∧ k < w4.heap.size) (fun k hk _ => ⟨by have := hk.1; simp at this; omega, hk.2⟩)); clear hA1; have HB4 := Lib.hid (hB.trans (hb1.mono hB.size)); have HS4 := Lib.hid (HS.out.bel hb1); clear hb1)
    | (refine step_call (by rfl) (sub_mk (k := 10) (tx := ByteArray.empty) (op := 0) (fl := false) T2 1 1 rfl rfl HS4.out) ?_ ?_; (focus (go_simp; done)); rintro e w5 ⟨⟨y2, b2, rfl, hA2⟩, hb2⟩; refine ⟨_, rfl, ?_⟩; have HX5 := Lib.hid (HX4.out.below hb2); obtain ⟨⟨x0, x1, x2, x3, x4⟩, xl⟩ := HX5.out; have HA2 := Lib.hid hA2; clear hA2; have HA1 := Lib.hid (HA1.out.bel hb2); have HB5 := Lib.hid (HB4.out.trans (hb2.mono HB4.out.size)); have HZ5 := Lib.hid hb2.size; have HS5 := Lib.hid (HS4.out.bel hb2); clear hb2)))
  all_goals
    have hz4 := HB4.out.size
    have hz5 := HZ5.out
    have hb6 := below_alloc1 w5 (.cells #[.iface y1 (.pointer (some ⟨b1, 0, none⟩)), .iface y2 (.pointer (some ⟨b2, 0, none⟩)), .nilIface, .slice none 0 0, .slice none 0 0, .slice none 0 0, .pointer none, .slice none 0 0, .pointer none, .string ByteArray.empty, .int .i64 0, .int .i64 0, .int .i64 0, .int .i64 0] 75)
    have HS6 := Lib.hid (HS5.out.bel hb6)
    have HX6 := Lib.hid (HX5.out.below hb6)
    have HN6 := Lib.hid (heap_alloc_new w5 (.cells #[.iface y1 (.pointer (some ⟨b1, 0, none⟩)), .iface y2 (.pointer (some ⟨b2, 0, none⟩)), .nilIface, .slice none 0 0, .slice none 0 0, .slice none 0 0, .pointer none, .slice none 0 0, .pointer none, .string ByteArray.empty, .int .i64 0, .int .i64 0, .int .i64 0, .int .i64 0] 75))
    have HB6 := Lib.hid (HB5.out.trans (hb6.mono HB5.out.size))
    have HA1 := Lib.hid (HA1.out.bel hb6)
    have HA2 := Lib.hid (HA2.out.bel hb6)
    clear hb6
    go_wp2_with fail
    refine (sub_mk (k := 10) (tx := ByteArray.empty) (op := 0) (fl := false) T3 2 2 rfl rfl HS6.out).mono ?_
    rintro e w7 ⟨⟨y3, b3, rfl, hA3⟩, hb3⟩
    have hz7 : w5.heap.size < w7.heap.size := by have := hb3.size; simp at this; omega
    have HA3 := Lib.hid (hA3.mono (T := fun k => w5.heap.size < k ∧ k < w7.heap.size) (fun k hk _ => ⟨by have := hk.1; simp at this; omega, hk.2⟩)); clear hA3
    have HA1 := Lib.hid (HA1.out.bel hb3)
    have HA2 := Lib.hid (HA2.out.bel hb3)
    have HB7 := Lib.hid (HB6.out.trans (hb3.mono HB6.out.size))
    have HN7 := Lib.hid ((hb3.block w5.heap.size (by simp)).trans HN6.out)
    clear hb3
    have q1 := cell_of (j := 2) HN7.out rfl
    have q2 := fun i => unfrozen_of_block HN7.out i
    go_wp2
    go_ret
    have hk : ∀ k, k ≠ w5.heap.size → (w7.setCell ⟨w5.heap.size, 2, none⟩ (.iface y3 (.pointer (some ⟨b3, 0, none⟩)))).heap[k]? = w7.heap[k]? := fun k hk => Below.heap_setCell _ _ _ _ hk
    refine ⟨⟨_, _, rfl, .if3 (S1 := fun k => w.heap.size < k ∧ k < w4.heap.size) (S2 := fun k => w4.heap.size ≤ k ∧ k < w5.heap.size) (S3 := fun k => w5.heap.size < k ∧ k < w7.heap.size) _ none none none none 0 0 0 0 ⟨by omega, by simp [World.setCell]; omega⟩ (fun k hk => ⟨⟨by omega, by simp [World.setCell]; omega⟩, by omega⟩) (fun k hk => ⟨⟨by omega, by simp [World.setCell]; omega⟩, by omega⟩) (fun k hk => ⟨⟨by omega, by simp [World.setCell]; omega⟩, by omega⟩) (fun k hk hk' => by omega) (fun k hk hk' => by omega) (fun k hk hk' => by omega) (by simp [World.setCell, Array.getElem?_modify, HN7.out])
      (HA1.out.keep (fun _ h _ => h) (fun k hk' _ => hk k (by omega))) (HA2.out.keep (fun _ h _ => h) (fun k hk' _ => hk k (by omega))) (HA3.out.keep (fun _ h _ => h) (fun k hk' _ => hk k (by omega)))⟩, HB7.out.setCell (by simp only; omega) _⟩
end Go.Proofs.YtlgajopaokjjaaaGreatFmt
