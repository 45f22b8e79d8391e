/-
  ast.cloneField: a field of an object is copied. Conditions: none.
-/
import Derived.Test.YtceepfnjdkfjnaaFmtCloneDef
namespace Go.Proofs.YtceepfnjdkfjnaaFmt
open Go.ChangeShapes Go.WideShapes Go.ChangeAt Go.RowKit Go.Joins

/-- A field's cells in a row of fields. -/
def Fld.Row (F : Fld) (s : Tr) (cur : Array Value) (off : Nat) : Prop :=
  (∃ c t, s = .mk 37 s.tx s.op s.fl [t] ∧ F.id = some c ∧ ∀ j v, (F.rowId s.op s.fl c)[j]? = some v → cur[off + j]? = some v) ∨
  (∃ t1 t2, s = .mk 39 ByteArray.empty s.op s.fl [t1, t2] ∧ F.id = none ∧ ∀ j v, (F.rowStr s.op s.fl)[j]? = some v → cur[off + j]? = some v)
theorem row_set {l : List Value} {cur : Array Value} {o i : Nat} {x : Value} (h : ∀ j v, l[j]? = some v → cur[o + j]? = some v) (hi : i < l.length) : ∀ j v, (l.set i x)[j]? = some v → (cur.setIfInBounds (o + i) x)[o + j]? = some v := fun j v hj => by
  by_cases e : j = i
  · subst e
    have h1 : l[j]? = some l[j] := List.getElem?_eq_getElem hi
    have h2 := (Array.getElem?_eq_some_iff.1 (h j _ h1)).1
    simp [hi] at hj
    subst hj
    simp [h2]
  · rw [List.getElem?_set_ne (Ne.symm e)] at hj
    rw [Array.getElem?_setIfInBounds_ne (by omega)]
    exact h j v hj
/-- What ast.cloneField leaves. -/
def FldCloned (w : World) (S1 S2 : Nat → Prop) (g o : Nat) (cur : Array Value) (F : Fld) (s : Tr) (e : Ending) (w' : World) : Prop :=
  e = .returned (.tuple #[]) ∧ ∃ (F' : Fld) (cur' : Array Value) (mid : Nat), F'.id = F.id ∧ F'.Row s cur' o ∧ (∀ j, j < o ∨ o + 18 ≤ j → cur'[j]? = cur[j]?) ∧ w'.heap[g]? = some (.cells cur' 232) ∧ w.grownBy w' (some g) ∧
    w.heap.size ≤ mid ∧ mid ≤ w'.heap.size ∧ (∀ kk op fl t1 t2, s = .mk kk ByteArray.empty op fl [t1, t2] → Ast w' (fun k => (w.heap.size ≤ k ∧ k < mid) ∨ (S1 k ∧ k < w.heap.size)) t1 F'.y1 F'.b1) ∧ (∀ u, s.subs.getLast? = some u → Ast w' (fun k => (mid ≤ k ∧ k < w'.heap.size) ∨ (S2 k ∧ k < w.heap.size)) u F'.y2 F'.b2)
set_option maxRecDepth 100000 in
set_option maxHeartbeats 2000000 in
theorem fld_any {w : World} {S1 S2 : Nat → Prop} {g o : Nat} {cur : Array Value} {F : Fld} {s : Tr} (hrow : F.Row s cur o) (hg : w.heap[g]? = some (.cells cur 232)) (n1 : ¬ S1 g) (n2 : ¬ S2 g)
    (A1 : ∀ kk op fl t1 t2, s = .mk kk ByteArray.empty op fl [t1, t2] → Ast w S1 t1 F.y1 F.b1) (A2 : ∀ u, s.subs.getLast? = some u → Ast w S2 u F.y2 F.b2) (ok : ∀ u ∈ s.subs, CloneOk u) :
    Calls Tryf.prog 60 #[.pointer (some ⟨g, o, none⟩)] w fun e w' => FldCloned w S1 S2 g o cur F s e w' := by
  have hgl := heap_lt hg
  rcases hrow with ⟨c, t, hs, hid, hc⟩ | ⟨t1, t2, hs, hid, hc⟩
  · have hsub : s.subs = [t] := by rw [hs]; rfl
    have q0 : w.cell? ⟨g, o, none⟩ = some (.pointer none) := cell_of hg (by have := hc 0 _ rfl; simpa using this)
    have HC6 := Lib.hid (hc 6 _ rfl); have HC7 := Lib.hid (hc 7 _ rfl); have HC8 := Lib.hid (hc 8 _ rfl)
    have HG := Lib.hid hg; have HA2 := Lib.hid (A2 t (by rw [hsub]; rfl)); have HOK := Lib.hid (ok t (by rw [hsub]; simp)); have HC := Lib.hid hc
    have HS := Lib.hid hs
    clear hc hg A1 A2 ok hs
    go_enter Tryf.func60, Tryf.ntmps60
    go_wp2_with fail
    refine (clone_nil HG.out (j := o + 6) HC6.out).mono ?_
    rintro e w2 ⟨rfl, rfl⟩
    go_wp2_with fail
    refine (HOK.out _ _ F.y2 F.b2 g (o + 7) _ _ HA2.out n2 HG.out HC7.out).mono ?_
    rintro e w3 ⟨rfl, b', hr, hg3, ha⟩
    have HR := Lib.hid hr
    have HG3 := Lib.hid hg3
    have HA := Lib.hid ha
    clear hr hg3 ha
    go_wp2_with fail
    refine (clone_nil HR.out (j := o + 8) (by rw [Array.getElem?_setIfInBounds_ne (by omega)]; exact HC8.out)).mono ?_
    rintro e w4 ⟨rfl, rfl⟩
    go_wp2
    go_end0
    refine ⟨rfl, { F with b2 := b' }, _, w.heap.size, rfl, .inl ⟨c, t, HS.out, hid, ?_⟩, fun j hj => ?_, HR.out, HG3.out, Nat.le_refl _, HG3.out.size, fun kk op fl x1 x2 e => ?_, fun u hu => ?_⟩
    · exact row_set (l := F.rowId s.op s.fl c) HC.out (i := 7) (x := .iface F.y2 (.pointer (some ⟨b', 0, none⟩))) (by simp [Fld.rowId])
    · rw [Array.getElem?_setIfInBounds_ne (by omega)]
    · rw [e] at hsub
      simp [Tr.subs] at hsub
    · rw [hsub] at hu
      obtain rfl : t = u := by simpa using hu
      exact HA.out.mono fun k hk hl => by
        rcases hk with h | h
        · exact .inl ⟨h, hl⟩
        · exact .inr h
  · have hsub : s.subs = [t1, t2] := by rw [hs]; rfl
    have q0 : w.cell? ⟨g, o, none⟩ = some (.pointer none) := cell_of hg (by have := hc 0 _ rfl; simpa using this)
    have HC6 := Lib.hid (hc 6 _ rfl); have HC7 := Lib.hid (hc 7 _ rfl); have HC8 := Lib.hid (hc 8 _ rfl)
    have HG := Lib.hid hg; have HA1 := Lib.hid (A1 39 s.op s.fl t1 t2 hs); have HA2 := Lib.hid (A2 t2 (by rw [hsub]; rfl)); have HOK1 := Lib.hid (ok t1 (by rw [hsub]; simp)); have HOK2 := Lib.hid (ok t2 (by rw [hsub]; simp)); have HC := Lib.hid hc
    have HS := Lib.hid hs
    clear hc hg A1 A2 ok hs
    go_enter Tryf.func60, Tryf.ntmps60
    go_wp2_with fail
    refine (HOK1.out _ _ F.y1 F.b1 g (o + 6) _ _ HA1.out n1 HG.out HC6.out).mono ?_
    rintro e w2 ⟨rfl, b1', hr, hg2, ha⟩
    have HR1 := Lib.hid hr
    have HG2 := Lib.hid hg2
    have HA := Lib.hid ha
    clear hr hg2 ha
    go_wp2_with fail
    refine (HOK2.out w2 (fun k => S2 k ∧ k < w.heap.size) F.y2 F.b2 g (o + 7) _ _ (ast_far HA2.out HG2.out n2) (fun h => n2 h.1) HR1.out (by rw [Array.getElem?_setIfInBounds_ne (by omega)]; exact HC7.out)).mono ?_
    rintro e w3 ⟨rfl, b2', hr, hg3, ha⟩
    have HR2 := Lib.hid hr
    have HG3 := Lib.hid hg3
    have HB := Lib.hid ha
    clear hr hg3 ha
    go_wp2_with fail
    refine (clone_nil HR2.out (j := o + 8) (by rw [Array.getElem?_setIfInBounds_ne (by omega), Array.getElem?_setIfInBounds_ne (by omega)]; exact HC8.out)).mono ?_
    rintro e w4 ⟨rfl, rfl⟩
    go_wp2
    go_end0
    refine ⟨rfl, { F with b1 := b1', b2 := b2' }, _, w2.heap.size, rfl, .inr ⟨t1, t2, HS.out, hid, ?_⟩, fun j hj => ?_, HR2.out, grown_then HG2.out HG3.out, HG2.out.size, HG3.out.size, fun kk op fl x1 x2 e => ?_, fun u hu => ?_⟩
    · exact row_set (l := ({ F with b1 := b1' } : Fld).rowStr s.op s.fl) (row_set (l := F.rowStr s.op s.fl) HC.out (i := 6) (x := .iface F.y1 (.pointer (some ⟨b1', 0, none⟩))) (by simp [Fld.rowStr])) (i := 7) (x := .iface F.y2 (.pointer (some ⟨b2', 0, none⟩))) (by simp [Fld.rowStr])
    · rw [Array.getElem?_setIfInBounds_ne (by omega), Array.getElem?_setIfInBounds_ne (by omega)]
    · have hs2 := HS.out
      rw [e] at hs2
      have e1 : [x1, x2] = [t1, t2] := by
        have := congrArg Tr.subs hs2
        simpa [Tr.subs] using this
      obtain ⟨rfl, rfl⟩ : x1 = t1 ∧ x2 = t2 := by simpa using e1
      have h1 := HA.out.keep (w' := w3) (T := fun k => (w.heap.size ≤ k ∧ k < w2.heap.size) ∨ (S1 k ∧ k < w.heap.size)) (fun k hk hl => by
        rcases hk with h | h
        · exact .inl ⟨h, hl⟩
        · exact .inr h) (fun k hk hl => HG3.out.block k hl (fun e => by
          injection e with e
          subst e
          rcases hk with h | h
          · omega
          · exact n1 h.1))
      exact h1
    · rw [hsub] at hu
      obtain rfl : t2 = u := by simpa using hu
      exact HB.out.mono fun k hk hl => by
        rcases hk with h | h
        · exact .inl ⟨h, hl⟩
        · exact .inr h.1
end Go.Proofs.YtceepfnjdkfjnaaFmt
