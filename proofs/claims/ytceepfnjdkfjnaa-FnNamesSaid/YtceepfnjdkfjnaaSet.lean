/-
  A set of names: NewIdentifierSet, Add, Remove, Contains. Conditions: how many steps were taken.
-/
import Derived.Test.YtceepfnjdkfjnaaRow1
namespace Go.Proofs.Ytceepfnjdkfjnaa
open Go.ChangeShapes Go.WideShapes Go.ChangeAt Go.RowKit Go.Joins Go.Maps

theorem lawI : Keyed Try.prog 40 := string_keyed Try.underlying40
theorem zeroU (w : World) : (zeroValue 44).run Try.prog w = .ok (.agg #[]) w := by kernel_rfl
/-- Block B is a set of names with those of a list, made by at most n steps. -/
def SetIs (w : World) (B n : Nat) (l : List (List UInt8)) : Prop := ∃ D : DataW Unit, w.ownsMap Try.prog 40 unitElem B n D ∧ ∀ x : List UInt8, Maps.has D (.string x) = decide (x ∈ l)
theorem SetIs.lt {w : World} {B n : Nat} {l : List (List UInt8)} (h : SetIs w B n l) : B < w.heap.size := by
  obtain ⟨D, hD, _⟩ := h
  exact hD.lt
theorem SetIs.kept {w w' : World} {B n : Nat} {l : List (List UInt8)} {row : Option Nat} (h : SetIs w B n l) (hg : w.grownBy w' row) (hne : row ≠ some B) : SetIs w' B n l := by
  obtain ⟨D, hD, hl⟩ := h
  exact ⟨D, hD.kept hg (Ne.symm hne), hl⟩
theorem grown_of_below {w w' : World} (hb : Below w.heap.size w w') : w.grownBy w' none := ⟨hb.os, hb.tape, hb.output, hb.size, fun k hk _ => hb.block k hk⟩
theorem SetIs.bel {w w' : World} {B n : Nat} {l : List (List UInt8)} (h : SetIs w B n l) (hb : Below w.heap.size w w') : SetIs w' B n l := h.kept (grown_of_below hb) (by simp)
theorem SetIs.mono {w : World} {B n m : Nat} {l : List (List UInt8)} (h : SetIs w B n l) (hn : n ≤ m) : SetIs w B m l := by
  obtain ⟨D, hD, hl⟩ := h
  exact ⟨D, hD.mono hn, hl⟩
theorem set_new (w : World) : Calls Try.prog 10 #[.slice none 0 0] w fun e w' => e = .returned (.map (some w.heap.size)) ∧ SetIs w' w.heap.size 0 [] ∧ Below w.heap.size w w' ∧ w'.heap.size = w.heap.size + 1 := by
  have hmm := @run_makeMap Try.prog
  go_enter Try.func10, Try.ntmps10
  go_wp2
  refine wp_loop_rounds 1 ?_
  rw [rounds_succ]
  go_wp2
  go_ret
  exact ⟨rfl, ⟨_, World.ownsMap_made _ _ _ _, fun x => by simp [Maps.has_eq]⟩, (Below.refl _ _).alloc (Nat.le_refl _) _, by simp⟩
theorem key_of {s : ByteArray} (hs : s.size ≤ maxLen) : keyOf Try.prog 40 (.string s) = some (.string s.data.toList) := WideMaps.keyOf_string_mk Try.underlying40 hs
theorem turned_grown {w w' : World} {B : Nat} (h : w.mapTurned w' B) : w.grownBy w' (some B) := h.grown
set_option maxRecDepth 100000 in
theorem set_has {w : World} {B n : Nat} {l : List (List UInt8)} (h : SetIs w B n l) (s : ByteArray) (hs : s.size ≤ 100) :
    Calls Try.prog 13 #[.map (some B), .string s] w fun e w' => e = .returned (.bool (decide (s.data.toList ∈ l))) ∧ SetIs w' B n l ∧ Below w.heap.size w w' := by
  obtain ⟨D, hown, hl⟩ := h
  have hkey := key_of (s := s) (by unfold maxLen; omega)
  have HL := Lib.hid (hl s.data.toList)
  have HD := Lib.hid hl
  clear hl
  go_enter Try.func13, Try.ntmps13
  go_wp2_with (first
    | (at_lookup; refine wpList_lookup_own_unit _ rfl _ _ 37 rfl 40 44 lawI Try.underlying37 (zeroU _) B n _ rfl hown _ _ rfl hkey ?_)
    | go_in)
  go_ret
  exact ⟨by rw [HL.out]; rfl, ⟨D, hown.alloc _, HD.out⟩, below_alloc1 _ _⟩
set_option maxRecDepth 100000 in
theorem set_remove {w : World} {B n : Nat} {l : List (List UInt8)} (h : SetIs w B n l) (s : ByteArray) (hs : s.size ≤ 100) :
    Calls Try.prog 12 #[.map (some B), .string s] w fun e w' => e = .returned (.tuple #[]) ∧ SetIs w' B n (l.filter fun x => decide (x ≠ s.data.toList)) ∧ w.grownBy w' (some B) := by
  obtain ⟨D, hown, hl⟩ := h
  have hkey := key_of (s := s) (by unfold maxLen; omega)
  have HD := Lib.hid hl
  clear hl
  go_enter Try.func12, Try.ntmps12
  go_wp2_with (first
    | (at_delete; refine wpList_delete_own _ rfl _ _ 37 40 rfl 44 lawI Try.underlying37 _ B n D rfl hown _ _ rfl hkey ?_; intro w1 hown1 hturn1)
    | go_in)
  go_end0
  refine ⟨rfl, ⟨_, hown1, fun x => ?_⟩, hturn1.grown⟩
  by_cases e : x = s.data.toList
  · subst e
    rw [Maps.has_del_same]
    simp
  · rw [Maps.has_del_other (by simpa using e), HD.out]
    simp [e]
set_option maxRecDepth 100000 in
theorem set_add {w : World} {B n : Nat} {l : List (List UInt8)} (h : SetIs w B n l) (s : ByteArray) (hs : s.size ≤ 100) (hn : n ≤ 100000) :
    Calls Try.prog 11 #[.map (some B), .string s] w fun e w' => e = .returned (.bool (!decide (s.data.toList ∈ l))) ∧ SetIs w' B (n + 1) (s.data.toList :: l) ∧ w.grownBy w' (some B) := by
  obtain ⟨D, hown, hl⟩ := h
  have hkey := key_of (s := s) (by unfold maxLen; omega)
  have HL := Lib.hid (hl s.data.toList)
  have HD := Lib.hid hl
  clear hl
  go_enter Try.func11, Try.ntmps11
  go_wp2_with (first
    | (at_lookup; refine wpList_lookup_own_unit _ rfl _ _ 37 rfl 40 44 lawI Try.underlying37 (zeroU _) B n _ rfl hown _ _ rfl hkey ?_)
    | (at_mapUpdate; refine wpList_mapUpdate_in _ rfl _ _ _ 37 rfl 40 44 lawI Try.underlying37 (unitElem (H := Unit)) B n D rfl (hown.alloc _) (by unfold maxLen; omega) _ _ _ rfl rfl hkey _ [] unitElem_mk ?_; intro w1 hown1 hturn1)
    | go_in)
  · go_ret
    rename_i hh
    rw [HL.out] at hh
    refine ⟨by rw [hh]; rfl, ⟨D, (hown.alloc _).mono (Nat.le_succ _), fun x => ?_⟩, World.grownBy_alloc _ _ _⟩
    rw [HD.out]
    by_cases e : x = s.data.toList
    · subst e
      have hm := of_decide_eq_true hh
      simp [hm]
    · simp [e]
  · go_ret
    rename_i hh
    rw [HL.out] at hh
    refine ⟨by rw [hh]; rfl, ⟨_, hown1, fun x => ?_⟩, (World.grownBy_alloc _ _ _).trans hturn1.grown⟩
    by_cases e : x = s.data.toList
    · subst e
      rw [Maps.has_put_same hown.isMap (by first | trivial | simp [WideAt.IsKeyLit])]
      simp
    · rw [Maps.has_put_other (by simpa using e), HD.out]
      simp [e]
end Go.Proofs.Ytceepfnjdkfjnaa
