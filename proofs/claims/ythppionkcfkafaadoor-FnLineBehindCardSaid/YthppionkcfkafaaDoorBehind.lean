/-
  ast.LineEnding, impl.LineBehind: what is behind a stretch in its line. Conditions: the text's length; it is one of whole characters; the line is there.
-/
import Derived.Test.YthppionkcfkafaaDoorBuild
import Derived.Test.YthppionkcfkafaaDoorStretch
namespace Go.Proofs.YthppionkcfkafaaDoor
open Go.ChangeShapes Go.WideShapes Go.ChangeAt Go.RowKit Go.Joins

set_option maxRecDepth 100000 in
set_option maxHeartbeats 3200000 in
theorem lineEnding_any (g sb b o n cap : Nat) (s fn : ByteArray) (x y d : Int) (k : Nat) (l : ByteArray) (w : World) (hk : k < n) (hn : n ≤ 1000)
    (hg : w.heap[g]? = some (.cells #[.pointer (some ⟨sb, 0, none⟩), .string s, .int .i64 x, .int .i64 y, .int .i64 ((k : Int) + 1), .int .i64 d] 65))
    (hb : w.heap[sb]? = some (.cells #[.string fn, .slice (some ⟨b, o, none⟩) n cap] 59)) (hl : w.cell? ⟨b, o + k, none⟩ = some (.string l)) :
    Calls Tryd.prog 26 #[.pointer (some ⟨g, 0, none⟩)] w fun e w' => e = .returned (.agg #[.pointer (some ⟨sb, 0, none⟩), .string s, .int .i64 ((k : Int) + 1), .int .i64 d, .int .i64 ((k : Int) + 1), .int .i64 l.size]) ∧ Below w.heap.size w w' := by
  have c0 := cell_of (j := 0) hg rfl
  have c1 := cell_of (j := 1) hg rfl
  have c4 := cell_of (j := 4) hg rfl
  have c5 := cell_of (j := 5) hg rfl
  have s1 := cell_of (j := 1) hb rfl
  have z1 := lt_of_block hg
  have z2 := lt_of_block hb
  have z3 := World.block_lt_of_cell? w _ hl
  have z4 : b < w.heap.size := z3
  have i0 : (0 : Int) ≤ (k : Int) := by omega
  have i1 : (k : Int) < (n : Int) := by omega
  have i2 : ¬ ((k : Int) < 0) := by omega
  have i3 : (k : Int) + 1 - 1 = k := by omega
  have i4 : IntKind.i64.wrap ((k : Int) + 1 - 1) = k := by rw [i3, IntKind.wrap_i64]; omega
  have i5 : IntKind.i64.wrap (k : Int) = k := by rw [IntKind.wrap_i64]; omega
  clear hg hb z3
  go_enter Tryd.func26, Tryd.ntmps26
  go_wp2
  go_region_held3 (Stay w)
    (first
      | (exact stay_drew (stay_alloc (stay_of (Below.refl _ _)) _)))
    (fail)
  clear c0 c1 c4 c5 s1 hl
  go_wp2
  exact bodyPost_ret (v := .agg #[.pointer (some ⟨sb, 0, none⟩), .string s, .int .i64 ((k : Int) + 1), .int .i64 d, .int .i64 ((k : Int) + 1), .int .i64 l.size]) (by simp [results, Tryd.results26, go_sem]) rfl ⟨rfl, (below_alloc1 _ _).drew⟩

set_option maxRecDepth 100000 in
set_option maxHeartbeats 3200000 in
theorem lineBehind_any (t : ByteArray) (ht : t.size ≤ 400) (hu : Lib.runesFrom t t.size 0 = t.data.toList) (a b d : Int) (k : Nat) (l : List UInt8) (hl : (cutL t.data.toList)[k]? = some l) (w : World) :
    Calls Tryd.prog 17 #[.string t, .agg #[.int .i64 a, .int .i64 b, .int .i64 ((k : Int) + 1), .int .i64 d]] w fun e w' => e = .returned (.agg #[.int .i64 ((k : Int) + 1), .int .i64 d, .int .i64 ((k : Int) + 1), .int .i64 l.length]) ∧ Below w.heap.size w w' := by
  have hcl := (cutL_len t.data.toList).2
  rw [← Lib.size_eq] at hcl
  have hkl := (List.getElem?_eq_some_iff.1 hl).1
  have HU := Lib.hid hu; have HLK := Lib.hid hl; clear hu hl
  obtain ⟨N, hN⟩ : ∃ N, (cutL t.data.toList).length = N := ⟨_, rfl⟩
  rw [hN] at hcl hkl
  have HN := Lib.hid hN; clear hN
  have hN1 : N ≤ 1000 := by omega
  clear hcl
  have HB0 := Lib.hid (below_alloc2 w (.cells #[.int .i64 a, .int .i64 b, .int .i64 ((k : Int) + 1), .int .i64 d] 41) (.cells #[.int .i64 0, .int .i64 0, .int .i64 0, .int .i64 0] 41))
  have HR0 := Lib.hid (show HasRow (w.heap.size + 1) 4 ((w.alloc (.cells #[.int .i64 a, .int .i64 b, .int .i64 ((k : Int) + 1), .int .i64 d] 41)).alloc (.cells #[.int .i64 0, .int .i64 0, .int .i64 0, .int .i64 0] 41)) from by have h := hasRow_new (w.alloc (.cells #[.int .i64 a, .int .i64 b, .int .i64 ((k : Int) + 1), .int .i64 d] 41)) #[.int .i64 0, .int .i64 0, .int .i64 0, .int .i64 0] 41 4 rfl; simpa using h)
  go_enter Tryd.func17, Tryd.ntmps17
  go_wp2_with fail
  refine (span_any _ _ _ _ _).mono ?_
  rintro e w1 ⟨rfl, hb1⟩
  have HB1 := Lib.hid (HB0.out.trans (hb1.mono HB0.out.size))
  have hz1 := hb1.size
  simp at hz1
  have HR1 := Lib.hid (hasRow_below HR0.out hb1 (hasRow_lt HR0.out (by decide)))
  clear hb1 HB0 HR0
  have HX1 := Lib.hid (heap_alloc_new w1 (.cells #[.pointer none, .string ByteArray.empty, .int .i64 a, .int .i64 b, .int .i64 ((k : Int) + 1), .int .i64 d] 65))
  have HB2 := Lib.hid (HB1.out.alloc HB1.out.size (.cells #[.pointer none, .string ByteArray.empty, .int .i64 a, .int .i64 b, .int .i64 ((k : Int) + 1), .int .i64 d] 65))
  have HR2 := Lib.hid (hasRow_alloc HR1.out (hasRow_lt HR1.out (by decide)) (.cells #[.pointer none, .string ByteArray.empty, .int .i64 a, .int .i64 b, .int .i64 ((k : Int) + 1), .int .i64 d] 65))
  clear HB1 HR1
  go_wp2_with fail
  refine (buildSource_any _ t ht HU.out _).mono ?_
  rintro e w3 ⟨⟨sb, v, rfl, hsb, hrow⟩, hb3⟩
  have hX3 := (hb3.block w1.heap.size (by simp)).trans HX1.out
  have HB3 := Lib.hid (HB2.out.trans (hb3.mono HB2.out.size))
  have HR3 := Lib.hid (hasRow_below HR2.out hb3 (hasRow_lt HR2.out (by decide)))
  obtain ⟨g, cap, rfl, hcap, hgl, hcells⟩ := hrow
  rw [HN.out] at hcap hsb
  have hgx : g ≠ w1.heap.size := fun e => by
    obtain ⟨l0, hl0⟩ : ∃ l0, (cutL t.data.toList)[0]? = some l0 := ⟨_, List.getElem?_eq_getElem (cutL_len _).1⟩
    have h1 := hcells 0 l0 hl0
    have h2 := cell_of (j := 0) hX3 rfl
    rw [e, h2] at h1
    simp [str] at h1
  have hsx : sb ≠ w1.heap.size := fun e => by
    rw [e, hX3] at hsb
    injection hsb with h1
    injection h1 with _ h2 _
    exact absurd h2 (by decide)
  have hck := hcells k l HLK.out
  have z3 := lt_of_block hX3
  have x0 := cell_of (j := 0) hX3 rfl
  have f0 := unfrozen_of_block hX3 0
  have HX3 := Lib.hid hX3; have HSB := Lib.hid hsb; have HCK := Lib.hid hck; have HGX := Lib.hid (And.intro hgx hsx); have HCAP := Lib.hid hcap
  clear hX3 hsb hck hcells hb3 HB2 HR2 HX1 hgx hsx hcap hgl
  go_wp2_with fail
  have hloc : (w3.setCell ⟨w1.heap.size, 0, none⟩ (.pointer (some ⟨sb, 0, none⟩))).heap[w1.heap.size]? = some (.cells #[.pointer (some ⟨sb, 0, none⟩), .string ByteArray.empty, .int .i64 a, .int .i64 b, .int .i64 ((k : Int) + 1), .int .i64 d] 65) := by
    simp [World.setCell, Array.getElem?_modify, HX3.out]
  refine (lineEnding_any w1.heap.size sb g 0 N cap _ _ a b d k ⟨l.toArray⟩ _ hkl hN1 hloc ((Below.heap_setCell _ _ _ _ HGX.out.2).trans HSB.out) ?_).mono ?_
  · rw [Nat.zero_add]
    exact (World.cell?_of_block (Below.heap_setCell _ _ _ _ HGX.out.1)).trans HCK.out
  rintro e w4 ⟨he, hb4⟩
  rw [show (⟨l.toArray⟩ : ByteArray).size = l.length from by rw [Lib.size_eq]] at he
  subst he
  have HB4 := Lib.hid ((HB3.out.setCell (p := ⟨w1.heap.size, 0, none⟩) (by simp only; omega) (.pointer (some ⟨sb, 0, none⟩))).trans (hb4.mono (by have := HB3.out.size; simpa [World.setCell] using this)))
  have HR4 := Lib.hid (hasRow_below (hasRow_set HR3.out ⟨w1.heap.size, 0, none⟩ (.pointer (some ⟨sb, 0, none⟩))) hb4 (hasRow_lt (hasRow_set HR3.out ⟨w1.heap.size, 0, none⟩ (.pointer (some ⟨sb, 0, none⟩))) (by decide)))
  clear hb4 HB3 HR3 HX3 HSB HCK x0 f0 hloc
  go_wp2_with fail
  refine (implStretch_any _ _ ⟨_, rfl⟩ ⟨_, rfl⟩ _ _ _ _ _).mono ?_
  rintro e w5 ⟨rfl, hb5⟩
  have hB5 := HB4.out.trans (hb5.mono HB4.out.size)
  have hr5 : HasRow (w.heap.size + 1) 4 w5 := hasRow_below HR4.out hb5 (hasRow_lt HR4.out (by decide))
  obtain ⟨r0, r1, r2, r3⟩ := row4f hr5 (.int .i64 ((k : Int) + 1)) (.int .i64 d) (.int .i64 ((k : Int) + 1)) (.int .i64 l.length)
  clear hb5
  go_wp2
  exact bodyPost_ret (v := .agg #[.int .i64 ((k : Int) + 1), .int .i64 d, .int .i64 ((k : Int) + 1), .int .i64 l.length]) (by simp [results, Tryd.results17, go_sem, r0, r1, r2, r3]) rfl ⟨rfl, (((hB5.setCell (by simp) _).setCell (by simp) _).setCell (by simp) _).setCell (by simp) _⟩
end Go.Proofs.YthppionkcfkafaaDoor
