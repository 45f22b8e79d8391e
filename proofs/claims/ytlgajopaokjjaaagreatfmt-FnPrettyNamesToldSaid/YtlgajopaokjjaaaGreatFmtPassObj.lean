/-
  The passes' own methods at objects. Conditions: what Visit does at the nodes below, and what the pass does at a field.
-/
import Derived.Test.YtlgajopaokjjaaaGreatFmtBase
namespace Go.Proofs.YtlgajopaokjjaaaGreatFmt
open Go.ChangeShapes Go.WideShapes Go.ChangeAt Go.RowKit Go.Joins
/-- What a pass does at a field. -/
def FldOk (fF : FuncId) (yp TP : TypeId) (cb : Nat) (s s' : Tr) : Prop := ∀ (w : World) (S1 S2 : Nat → Prop) (g o : Nat) (cur : Array Value) (Fd : Fld), PassAt TP cb w → ¬ S1 cb → ¬ S2 cb → g ≠ cb → Fd.Row s cur o → (∀ c, Fd.id = some c → nameAt w c s.tx ∧ c ≠ g ∧ ¬ S1 c ∧ ¬ S2 c) → w.heap[g]? = some (.cells cur 155) → ¬ S1 g → ¬ S2 g → (∀ k, S1 k → ¬ S2 k) →
    (∀ kk op fl t1 t2, s = .mk kk ByteArray.empty op fl [t1, t2] → Ast w S1 t1 Fd.y1 Fd.b1) → (∀ u, s.subs.getLast? = some u → Ast w S2 u Fd.y2 Fd.b2) →
    Calls Tryz.prog fF #[.pointer (some ⟨cb, 0, none⟩), .iface yp (.pointer (some ⟨cb, 0, none⟩)), .pointer (some ⟨g, o, none⟩), .nilIface] w fun e w' => FldDone w S1 S2 g o cur Fd s' e w'
theorem FldOk.drawn {fF : FuncId} {yp TP : TypeId} {cb : Nat} {s s' : Tr} (h : FldOk fF yp TP cb s s') (w : World) (S1 S2 : Nat → Prop) (g o : Nat) (cur : Array Value) (Fd : Fld) (hp : PassAt TP cb w) (nc1 : ¬ S1 cb) (nc2 : ¬ S2 cb) (hgc : g ≠ cb) (hrow : Fd.Row s cur o) (hid : ∀ c, Fd.id = some c → nameAt w c s.tx ∧ c ≠ g ∧ ¬ S1 c ∧ ¬ S2 c) (hg : w.heap[g]? = some (.cells cur 155)) (n1 : ¬ S1 g) (n2 : ¬ S2 g) (d : ∀ k, S1 k → ¬ S2 k)
    (a1 : ∀ kk op fl t1 t2, s = .mk kk ByteArray.empty op fl [t1, t2] → Ast w S1 t1 Fd.y1 Fd.b1) (a2 : ∀ u, s.subs.getLast? = some u → Ast w S2 u Fd.y2 Fd.b2) :
    Calls Tryz.prog fF #[.pointer (some ⟨cb, 0, none⟩), .iface yp (.pointer (some ⟨cb, 0, none⟩)), .pointer (some ⟨g, o, none⟩), .nilIface] w.drew fun e w' => FldDone w S1 S2 g o cur Fd s' e w' :=
  (h w.drew S1 S2 g o cur Fd hp nc1 nc2 hgc hrow hid hg n1 n2 d (fun kk op fl t1 t2 e => (a1 kk op fl t1 t2 e).drew) (fun u hu => (a2 u hu).drew)).mono fun _ _ h => h.undrew
theorem name_one {w : World} {c : Nat} {t1 t2 : ByteArray} (h1 : nameAt w c t1) (h2 : nameAt w c t2) : t1 = t2 := by
  unfold nameAt at h1 h2
  rw [h1] at h2
  simpa using h2
theorem fieldParams_any (r p : Value) {w : World} {g o : Nat} (h : w.cell? ⟨g, o, none⟩ = some (.pointer none)) : Calls Tryz.prog 101 #[r, p, .pointer (some ⟨g, o, none⟩), .nilIface] w fun e w' => e = .returned (.tuple #[]) ∧ w = w' := by
  go_enter Tryz.func101, Tryz.ntmps101
  go_wp2
  go_end0
  exact ⟨rfl, rfl⟩
set_option maxRecDepth 100000 in
set_option maxHeartbeats 800000 in
/-- A field with a name. -/
theorem base_fieldId {fV : FuncId} {yp TP : TypeId} {cb : Nat} (P : PassVisits fV yp TP cb) (hFP : ∀ w, PassAt TP cb w → (method 388 yp (.pointer (some ⟨cb, 0, none⟩)) "FieldParams").run Tryz.prog w = .ok (101, .pointer (some ⟨cb, 0, none⟩)) w) (r : Value) {t t' : Tr} (ih : VisitOk fV yp TP cb t t') {tx : ByteArray} {op : Int} {fl : Bool}
    (w : World) (S1 S2 : Nat → Prop) (g o : Nat) (cur : Array Value) (Fd : Fld) {c : Nat} (hid : Fd.id = some c) (hrow : ∀ j v, (Fd.rowId op fl c)[j]? = some v → cur[o + j]? = some v) (hn : nameAt w c tx) (hg : w.heap[g]? = some (.cells cur 155)) (n2 : ¬ S2 g) (A2 : Ast w S2 t Fd.y2 Fd.b2) (hp : PassAt TP cb w) (nc2 : ¬ S2 cb) (hgc : g ≠ cb) :
    Calls Tryz.prog 109 #[r, .iface yp (.pointer (some ⟨cb, 0, none⟩)), .pointer (some ⟨g, o, none⟩), .nilIface] w fun e w' => FldDone w S1 S2 g o cur Fd (.mk 37 tx op fl [t']) e w' := by
  have m1 := P.visit w.drew.drew.drew hp; have m2 := P.fodder w.drew hp; have m3 := P.visit0; have m4 := P.fodder0; have m5 := P.enter; have m6 := hFP w.drew hp; have m7 := P.fodder w.drew.drew hp
  have HP := Lib.hid hp; have PP := Lib.hid P
  have c0 := cell_of hg (by have := hrow 0 _ rfl; simpa using this)
  have c3 := cell_of hg (hrow 3 _ rfl); have c4 := cell_of hg (hrow 4 _ rfl)
  have c15 := cell_of hg (hrow 15 _ rfl)
  have V := Lib.hid (ih.drawn w.drew.drew S2 Fd.y2 Fd.b2 g (o + 7) _ _ hp nc2 hgc A2.drew.drew n2 hg (hrow 7 _ rfl))
  have HR := Lib.hid hrow; have HN := Lib.hid hn
  clear hrow hg A2 P hFP ih hn hp
  go_enter Tryz.func109, Tryz.ntmps109
  go_wp2_with fail
  go_region_with (first | (refine (fodder_drawn _ _ c3).mono ?_; rintro e w9 ⟨rfl, rfl⟩) | fail)
  go_wp2_with fail
  go_at_call 101
  refine (fieldParams_any _ _ (w := w.drew) c0).mono ?_
  rintro e w9 ⟨rfl, rfl⟩
  go_wp2_with fail
  go_region_with (first | (refine (fodder_drawn _ _ (w := w.drew) c4).mono ?_; rintro e w9 ⟨rfl, rfl⟩) | fail)
  go_wp2_with fail
  go_region_with (first | (refine V.out.mono ?_; rintro e w1 ⟨rfl, y', b', hr1, hg1, ha1⟩) | fail)
  have hg1 := hg1.undrew.undrew
  have mf := PP.out.fodder w1.drew ((hg1.block cb (heap_lt HP.out) (fun hx => hx.elim nc2 (fun hx => hgc hx.symm))).trans HP.out)
  have c5 := cell_of (j := o + 5) hr1 (by rw [Array.getElem?_setIfInBounds_ne (by omega)]; exact HR.out 5 _ rfl)
  have HR1 := Lib.hid hr1; have HG1 := Lib.hid hg1; have HA1 := Lib.hid ha1
  clear hr1 hg1 ha1 c0 c3 c4 c15
  go_wp2_with fail
  go_region_with (first | (refine (fodder_drawn _ _ c5).mono ?_; rintro e w9 ⟨rfl, rfl⟩) | fail)
  go_wp2
  go_end0
  refine FldDone.drew (w' := w1) ⟨rfl, { Fd with y2 := y', b2 := b' }, _, w.heap.size, w.heap.size, .inl ⟨c, t', rfl, hid, ?_⟩, fun j hj => ?_, HR1.out, HG1.out.mono (fun k hk _ => hk.elim (fun h => .inl (.inr h)) .inr), Nat.le_refl _, Nat.le_refl _, HG1.out.size, fun c' hc' => .inl ⟨hc', fun tx' h' => ?_⟩, fun kk op fl x1 x2 e => ?_, fun u hu => ?_⟩
  · exact row_set (l := Fd.rowId op fl c) HR.out (i := 7) (x := .iface y' (.pointer (some ⟨b', 0, none⟩))) (by simp [Fld.rowId])
  · rw [Array.getElem?_setIfInBounds_ne (by omega)]
  · have e1 : Fd.id = some c' := hc'
    rw [hid] at e1
    injection e1 with e1
    subst e1
    exact name_one h' HN.out
  · injection e with _ _ _ _ e5
    simp at e5
  · obtain rfl : t' = u := by simpa [Tr.subs] using hu
    exact HA1.out.mono fun k hk hl => by
      rcases hk with h | h
      · exact .inl ⟨h, hl⟩
      · exact .inr h
set_option maxRecDepth 100000 in
set_option maxHeartbeats 800000 in
/-- A field with a string. -/
theorem base_fieldStr {fV : FuncId} {yp TP : TypeId} {cb : Nat} (P : PassVisits fV yp TP cb) (hFP : ∀ w, PassAt TP cb w → (method 388 yp (.pointer (some ⟨cb, 0, none⟩)) "FieldParams").run Tryz.prog w = .ok (101, .pointer (some ⟨cb, 0, none⟩)) w) (r : Value) {t1 t1' t2 t2' : Tr} (ih1 : VisitOk fV yp TP cb t1 t1') (ih2 : VisitOk fV yp TP cb t2 t2') {op : Int} {fl : Bool}
    (w : World) (S1 S2 : Nat → Prop) (g o : Nat) (cur : Array Value) (Fd : Fld) (hid : Fd.id = none) (hrow : ∀ j v, (Fd.rowStr op fl)[j]? = some v → cur[o + j]? = some v) (hg : w.heap[g]? = some (.cells cur 155)) (n1 : ¬ S1 g) (n2 : ¬ S2 g) (d12 : ∀ k, S1 k → ¬ S2 k) (A1 : Ast w S1 t1 Fd.y1 Fd.b1) (A2 : Ast w S2 t2 Fd.y2 Fd.b2) (hp : PassAt TP cb w) (nc1 : ¬ S1 cb) (nc2 : ¬ S2 cb) (hgc : g ≠ cb) :
    Calls Tryz.prog 109 #[r, .iface yp (.pointer (some ⟨cb, 0, none⟩)), .pointer (some ⟨g, o, none⟩), .nilIface] w fun e w' => FldDone w S1 S2 g o cur Fd (.mk 39 ByteArray.empty op fl [t1', t2']) e w' := by
  have m1 := P.visit w.drew hp; have m3 := P.visit0; have m4 := P.fodder0; have m5 := P.enter
  have HP := Lib.hid hp; have PP := Lib.hid P; have FPP := Lib.hid hFP
  have gl := heap_lt hg
  have c15 := cell_of hg (hrow 15 _ rfl)
  have V := Lib.hid (ih1.drawn w S1 Fd.y1 Fd.b1 g (o + 6) _ _ hp nc1 hgc A1 n1 hg (hrow 6 _ rfl))
  have HR := Lib.hid hrow; have HA2 := Lib.hid A2; have IH := Lib.hid ih2
  clear hrow hg A1 A2 P hFP ih1 ih2 hp
  go_enter Tryz.func109, Tryz.ntmps109
  go_wp2_with fail
  go_region_with (first | (refine V.out.mono ?_; rintro e w1 ⟨rfl, y1', b1', hr1, hg1, ha1⟩) | fail)
  have HP1 := Lib.hid ((hg1.block cb (heap_lt HP.out) (fun hx => hx.elim nc1 (fun hx => hgc hx.symm))).trans HP.out)
  have m6 := FPP.out w1 HP1.out; have m7 := PP.out.fodder w1.drew HP1.out; have m8 := PP.out.visit w1.drew.drew HP1.out
  have c0 := cell_of (j := o) hr1 (by rw [Array.getElem?_setIfInBounds_ne (by omega)]; have := HR.out 0 _ rfl; simpa using this)
  have c4 := cell_of (j := o + 4) hr1 (by rw [Array.getElem?_setIfInBounds_ne (by omega)]; exact HR.out 4 _ rfl)
  have V2 := Lib.hid (IH.out.drawn w1.drew (fun k => S2 k ∧ k < w.heap.size) Fd.y2 Fd.b2 g (o + 7) _ _ HP1.out (fun h => nc2 h.1) hgc (Ast.drew (HA2.out.within hg1 (fun k hk hx => hx.elim (fun hx => d12 k hx hk) (fun hx => n2 (hx ▸ hk))))) (fun h => n2 h.1) hr1 (by rw [Array.getElem?_setIfInBounds_ne (by omega)]; exact HR.out 7 _ rfl))
  have HR1 := Lib.hid hr1; have HG1 := Lib.hid hg1; have HA1 := Lib.hid (part_first ha1)
  have z1 := hg1.size
  clear hr1 hg1 ha1 c15
  go_wp2_with fail
  go_at_call 101
  refine (fieldParams_any _ _ c0).mono ?_
  rintro e w9 ⟨rfl, rfl⟩
  go_wp2_with fail
  go_region_with (first | (refine (fodder_drawn _ _ c4).mono ?_; rintro e w9 ⟨rfl, rfl⟩) | fail)
  go_wp2_with fail
  go_region_with (first | (refine V2.out.mono ?_; rintro e w2 ⟨rfl, y2', b2', hr2, hg2, ha2⟩) | fail)
  have hg2 := hg2.undrew
  have mf := PP.out.fodder w2.drew ((hg2.block cb (heap_lt HP1.out) (fun hx => hx.elim (fun hx => nc2 hx.1) (fun hx => hgc hx.symm))).trans HP1.out)
  have c5 := cell_of (j := o + 5) hr2 (by rw [Array.getElem?_setIfInBounds_ne (by omega), Array.getElem?_setIfInBounds_ne (by omega)]; exact HR.out 5 _ rfl)
  have hg2' := hg2.mono (T := fun k => S2 k ∨ k = g) (fun k hk _ => hk.imp And.left id)
  have HR2 := Lib.hid hr2; have HG2 := Lib.hid hg2; have HG2' := Lib.hid hg2'; have HA2 := Lib.hid ha2
  clear hr2 hg2 ha2 hg2' c0 c4
  go_wp2_with fail
  go_region_with (first | (refine (fodder_drawn _ _ c5).mono ?_; rintro e w9 ⟨rfl, rfl⟩) | fail)
  go_wp2
  go_end0
  refine FldDone.drew (w' := w2) ⟨rfl, { Fd with y1 := y1', b1 := b1', y2 := y2', b2 := b2' }, _, w.heap.size, w1.heap.size, .inr ⟨t1', t2', rfl, hid, ?_⟩, fun j hj => ?_, HR2.out, ?_, Nat.le_refl _, z1, HG2.out.size, fun c' hc' => ?_, fun kk op fl x1 x2 e => ?_, fun u hu => ?_⟩
  · have h1 := row_set (l := Fd.rowStr op fl) HR.out (i := 6) (x := .iface y1' (.pointer (some ⟨b1', 0, none⟩))) (by simp [Fld.rowStr])
    exact row_set h1 (i := 7) (x := .iface y2' (.pointer (some ⟨b2', 0, none⟩))) (by simp [Fld.rowStr])
  · rw [Array.getElem?_setIfInBounds_ne (by omega), Array.getElem?_setIfInBounds_ne (by omega)]
  · exact (HG1.out.mono (T := fun k => (S1 k ∨ S2 k) ∨ k = g) (fun k hk _ => hk.elim (fun h => .inl (.inl h)) .inr)).trans HG2'.out (fun k hk _ => hk.elim (fun h => .inl (.inr h)) .inr)
  · have e1 : Fd.id = some c' := hc'
    rw [hid] at e1
    cases e1
  · injection e with _ _ _ _ e5
    simp at e5
    obtain ⟨rfl, rfl⟩ := e5
    exact part_far HA1.out HG2.out (fun k hk => hk.elim (fun hk => ⟨hk.2, fun h => d12 k h hk.1⟩) (fun hk => ⟨hk ▸ gl, fun h => n1 (hk ▸ h)⟩)) (Nat.le_refl _)
  · obtain rfl : t2' = u := by simpa [Tr.subs] using hu
    exact HA2.out.mono fun k hk hl => by
      rcases hk with h | h
      · exact .inl ⟨h, hl⟩
      · exact .inr h.1
set_option maxRecDepth 100000 in
set_option maxHeartbeats 800000 in
theorem base_fields {yp TP : TypeId} {cb : Nat} {fF : FuncId} (hM : ∀ w, PassAt TP cb w → (method 388 yp (.pointer (some ⟨cb, 0, none⟩)) "ObjectField").run Tryz.prog w = .ok (fF, .pointer (some ⟨cb, 0, none⟩)) w) (hME : ∀ args w, (callFunc fF args).run Tryz.prog w = .ok (.enter fF args) w) (hM0 : ∀ w, (nilAhead 388 yp (.pointer (some ⟨cb, 0, none⟩)) "ObjectField").run Tryz.prog w = .ok (some false) w) (G : Tr → Tr) (r : Value) {w : World} {S : Nat → Prop} {S1 S2 : Nat → Nat → Prop} {b g cap : Nat} {cur : Array Value} {p0 p1 p2 : Option Addr} {n0 n1 n2 : Nat} {tc : Bool} {a : Option Addr} {l : List Tr} {F : Nat → Fld} (hl : l.length ≤ 6) (h0 : 0 < l.length) (ha : a = some ⟨g, 0, none⟩) (hgb : g ≠ b)
    (hh : w.heap[g]? = some (.cells cur 155)) (hr : ∀ i t, l[i]? = some t → (F i).at_ w S b g cur (i * 18) t)
    (ss : ∀ i, i < l.length → ∀ k, S1 i k ∨ S2 i k → S k ∧ k ≠ b ∧ k ≠ g ∧ ∀ j, j < l.length → (F j).id ≠ some k) (d12 : ∀ i, i < l.length → ∀ k, S1 i k → ¬ S2 i k) (dd : ∀ i j, i < j → j < l.length → ∀ k, S1 i k ∨ S2 i k → ¬ (S1 j k ∨ S2 j k))
    (hb : w.heap[b]? = some (.cells #[.slice a l.length cap, .slice p2 0 n2, .slice p0 0 n0, .pointer none, .slice p1 0 n1, .pointer none, .string ByteArray.empty, .int .i64 0, .int .i64 0, .int .i64 0, .int .i64 0, .bool tc] 133))
    (a1 : ∀ i k op fl t1 t2, l[i]? = some (.mk k ByteArray.empty op fl [t1, t2]) → Ast w (S1 i) t1 (F i).y1 (F i).b1) (a2 : ∀ i t u, l[i]? = some t → t.subs.getLast? = some u → Ast w (S2 i) u (F i).y2 (F i).b2) (ok : ∀ s ∈ l, FldOk fF yp TP cb s (G s)) (hp : PassAt TP cb w) (hn : ¬ S cb) (hgc : g ≠ cb) :
    Calls Tryz.prog 105 #[r, .iface yp (.pointer (some ⟨cb, 0, none⟩)), .pointer (some ⟨b, 0, none⟩), .nilIface] w fun e w' => e = .returned (.tuple #[]) ∧ ∃ cu F' lo, FldsAt w G l F S1 S2 g l.length w' cu F' lo := by
  subst ha
  have zb := heap_lt hb
  have hgl := heap_lt hh
  have x0 := cell_of (j := 0) hb rfl
  have HB := Lib.hid hb; have HR := Lib.hid hr; have SD := Lib.hid ss; have D12 := Lib.hid d12; have DD := Lib.hid dd; have A1 := Lib.hid a1; have A2 := Lib.hid a2; have OK := Lib.hid ok; have HH := Lib.hid hh; have HP := Lib.hid hp
  clear hp hb hr ss d12 dd a1 a2 ok hh
  go_enter Tryz.func105, Tryz.ntmps105
  go_wp2_with fail
  go_loopw [13] (fun i wr => ∃ (m : Nat) (cu : Array Value) (F' : Nat → Fld) (lo : Nat → Nat), m ≤ l.length ∧ i = .int .i64 m ∧ FldsAt w G l F S1 S2 g m wr cu F' lo) (fun i _ => l.length - (intOf i).toNat)
  case atStart => exact ⟨0, cur, F, fun _ => w.heap.size, Nat.zero_le _, rfl, flds_start HH.out (fun i s hs => Fld.at_row (HR.out i s hs))⟩
  case round =>
    obtain ⟨m, cu, F', lo, hm, rfl, hmid⟩ := hrel
    have hbr := (hmid.within.block b zb (fun hx => by
      rcases hx with hx | ⟨i, hi, hx⟩
      · exact hgb hx.symm
      · exact (SD.out i (by omega) b hx).2.1 rfl)).trans HB.out
    have HPR := Lib.hid ((hmid.within.block cb (heap_lt HP.out) (fun hx => by
      rcases hx with hx | ⟨i, hi, hx⟩
      · exact hgc hx.symm
      · exact hn (SD.out i (by omega) cb hx).1)).trans HP.out)
    have HM := Lib.hid hmid; clear hmid x0
    have x0 := cell_of (j := 0) hbr rfl
    clear hbr
    by_cases hml : m < l.length
    · obtain ⟨s, hs⟩ : ∃ s, l[m]? = some s := ⟨_, List.getElem?_eq_getElem hml⟩
      have out1 : ∀ k, S1 m k ∨ S2 m k → ¬ (k = g ∨ ∃ i, i < m ∧ (S1 i k ∨ S2 i k)) := fun k hk hx => by
        rcases hx with hx | ⟨i, hi, hx⟩
        · exact (SD.out m hml k hk).2.2.1 hx
        · exact DD.out i m hi hml k hx hk
      have hnm : ∀ c, (F m).id = some c → nameAt w c s.tx ∧ c ≠ g := fun c hc => by
        rcases HR.out m s hs with ⟨c', t, _, e, _, _, hcg, hh, _⟩ | ⟨_, _, _, e, _⟩
        · rw [hc] at e
          injection e with e
          subst e
          exact ⟨hh, hcg⟩
        · rw [hc] at e; cases e
      have C := Lib.hid ((OK.out s (List.mem_of_getElem? hs)).drawn wr (fun k => S1 m k ∧ k < w.heap.size) (fun k => S2 m k ∧ k < w.heap.size) g (m * 18) cu (F m) HPR.out (fun h => hn (SD.out m hml cb (.inl h.1)).1) (fun h => hn (SD.out m hml cb (.inr h.1)).1) hgc (HM.out.rest m s hs (Nat.le_refl _))
        (fun c hc => ⟨(HM.out.within.block c (heap_lt (hnm c hc).1) (fun hx => by
          rcases hx with hx | ⟨i, hi, hx⟩
          · exact (hnm c hc).2 hx
          · exact (SD.out i (by omega) c hx).2.2.2 m hml hc)).trans (hnm c hc).1, (hnm c hc).2, fun h => (SD.out m hml c (.inl h.1)).2.2.2 m hml hc, fun h => (SD.out m hml c (.inr h.1)).2.2.2 m hml hc⟩)
        HM.out.row (fun h => (SD.out m hml g (.inl h.1)).2.2.1 rfl) (fun h => (SD.out m hml g (.inr h.1)).2.2.1 rfl) (fun k h h' => D12.out m hml k h.1 h'.1)
        (fun kk op fl t1 t2 e => (A1.out m kk op fl t1 t2 (e ▸ hs)).within HM.out.within (fun k hk => out1 k (.inl hk))) (fun u hu => (A2.out m s u hs hu).within HM.out.within (fun k hk => out1 k (.inr hk))))
      have HID := Lib.hid (fun c hc => (⟨heap_lt (hnm c hc).1, (hnm c hc).2, fun i hi h => (SD.out i hi c h).2.2.2 m hml hc⟩ : c < w.heap.size ∧ c ≠ g ∧ ∀ i, i < l.length → ¬ (S1 i c ∨ S2 i c)))
      have HS := Lib.hid hs
      clear hs out1 hnm
      go_wp2_with fail
      have mo := hM wr.drew HPR.out
      go_region_with (first | (refine C.out.mono ?_; rintro e w3 hd; obtain ⟨cu', F'', lo', hn⟩ := HM.out.next HS.out hgl (fun i hi k hk => (SD.out i hi k hk).2.2.1) DD.out HID.out hd; obtain rfl := hd.1) | fail)
      all_goals
        have HN := Lib.hid hn
        clear hd hn x0
        go_wp2
        go_roundw
        case rel => exact ⟨m + 1, _, _, _, by omega, by go_num, HN.out⟩
        case measure => simp [intOf]; omega
    · obtain rfl : m = l.length := by omega
      go_wp2
      go_end0
      exact ⟨rfl, _, _, _, HM.out⟩
set_option maxRecDepth 100000 in
theorem base_fields0 {r p : Value} {w : World} {b n : Nat} {a : Option Addr} (h : w.cell? ⟨b, 0, none⟩ = some (.slice a 0 n)) :
    Calls Tryz.prog 105 #[r, p, .pointer (some ⟨b, 0, none⟩), .nilIface] w fun e w' => e = .returned (.tuple #[]) ∧ w = w' := by
  go_enter Tryz.func105, Tryz.ntmps105
  go_wp2
  go_loopw [13] (fun i wr => i = .int .i64 0 ∧ wr = w) (fun _ _ => 0)
  case atStart => exact ⟨rfl, rfl⟩
  case round =>
    obtain ⟨rfl, rfl⟩ := hrel
    go_wp2
    go_end0
    exact ⟨rfl, rfl⟩
set_option maxRecDepth 100000 in
set_option maxHeartbeats 800000 in
theorem base_object {fV : FuncId} {yp TP : TypeId} {cb : Nat} {fF : FuncId} (P : PassVisits fV yp TP cb) (hM : ∀ w, PassAt TP cb w → (method 388 yp (.pointer (some ⟨cb, 0, none⟩)) "ObjectField").run Tryz.prog w = .ok (fF, .pointer (some ⟨cb, 0, none⟩)) w) (hME : ∀ args w, (callFunc fF args).run Tryz.prog w = .ok (.enter fF args) w) (hM0 : ∀ w, (nilAhead 388 yp (.pointer (some ⟨cb, 0, none⟩)) "ObjectField").run Tryz.prog w = .ok (some false) w) (hMs0 : ∀ w, (nilAhead 388 yp (.pointer (some ⟨cb, 0, none⟩)) "ObjectFields").run Tryz.prog w = .ok (some false) w) (hMs : ∀ w, PassAt TP cb w → (method 388 yp (.pointer (some ⟨cb, 0, none⟩)) "ObjectFields").run Tryz.prog w = .ok (105, .pointer (some ⟨cb, 0, none⟩)) w) (G : Tr → Tr) (r : Value) {w : World} {S : Nat → Prop} {S1 S2 : Nat → Nat → Prop} {b g cap : Nat} {cur : Array Value} {p0 p1 p2 : Option Addr} {n0 n1 n2 : Nat} {tc : Bool} {a : Option Addr} {l : List Tr} {F : Nat → Fld} (hl : l.length ≤ 6) (hS : S b)
    (hg : 0 < l.length → a = some ⟨g, 0, none⟩ ∧ S g ∧ g ≠ b ∧ w.heap[g]? = some (.cells cur 155)) (hcap : l.length ≤ cap) (hr : ∀ i t, l[i]? = some t → (F i).at_ w S b g cur (i * 18) t)
    (ss : ∀ i, i < l.length → ∀ k, S1 i k ∨ S2 i k → S k ∧ k ≠ b ∧ k ≠ g ∧ ∀ j, j < l.length → (F j).id ≠ some k) (d12 : ∀ i, i < l.length → ∀ k, S1 i k → ¬ S2 i k) (dd : ∀ i j, i < j → j < l.length → ∀ k, S1 i k ∨ S2 i k → ¬ (S1 j k ∨ S2 j k)) (di : ∀ i j, i < j → j < l.length → ∀ k, (F i).id = some k → (F j).id ≠ some k)
    (hb : w.heap[b]? = some (.cells #[.slice a l.length cap, .slice p2 0 n2, .slice p0 0 n0, .pointer none, .slice p1 0 n1, .pointer none, .string ByteArray.empty, .int .i64 0, .int .i64 0, .int .i64 0, .int .i64 0, .bool tc] 133))
    (a1 : ∀ i k op fl t1 t2, l[i]? = some (.mk k ByteArray.empty op fl [t1, t2]) → Ast w (S1 i) t1 (F i).y1 (F i).b1) (a2 : ∀ i t u, l[i]? = some t → t.subs.getLast? = some u → Ast w (S2 i) u (F i).y2 (F i).b2) (ok : ∀ s ∈ l, FldOk fF yp TP cb s (G s)) (hp : PassAt TP cb w) (hn : ¬ S cb) :
    Calls Tryz.prog 88 #[r, .iface yp (.pointer (some ⟨cb, 0, none⟩)), .pointer (some ⟨b, 0, none⟩), .nilIface] w fun e w' => Noded w S (.mk 20 ByteArray.empty 0 false (l.map G)) 128 b e w' := by
  have zb := heap_lt hb
  have m2 := hMs w.drew hp; have m4 := P.fodder0; have HP := Lib.hid hp; have PP := Lib.hid P
  have x1 := cell_of (j := 1) hb rfl
  by_cases h0 : 0 < l.length
  · obtain ⟨rfl, hSg, hgb, hh⟩ := hg h0
    have hgl := heap_lt hh
    have C := Lib.hid (base_fields (w := w.drew) hM hME hM0 G (.pointer (some ⟨cb, 0, none⟩)) hl h0 rfl hgb hh hr ss d12 dd hb (fun i k op fl t1 t2 h => (a1 i k op fl t1 t2 h).drew) (fun i t u h h' => (a2 i t u h h').drew) ok hp hn (fun e => hn (e ▸ hSg)))
    have HB := Lib.hid hb; have HR := Lib.hid hr; have SD := Lib.hid ss; have D12 := Lib.hid d12; have DD := Lib.hid dd; have DI := Lib.hid di
    clear hb hr ss d12 dd di a1 a2 ok hh hg P hM hM0 hME hp hMs
    go_enter Tryz.func88, Tryz.ntmps88
    go_wp2_with fail
    go_region_with (first | (refine C.out.mono ?_; rintro e w1 ⟨rfl, cu, F', lo, hf⟩) | fail)
    have hf := hf.undrew
    have hb1 := (hf.within.block b zb (fun hx => by
      rcases hx with hx | ⟨i, hi, hx⟩
      · exact hgb hx.symm
      · exact (SD.out i hi b hx).2.1 rfl)).trans HB.out
    have mf := PP.out.fodder w1.drew ((hf.within.block cb (heap_lt HP.out) (fun hx => by
      rcases hx with hx | ⟨i, hi, hx⟩
      · exact hn (hx ▸ hSg)
      · exact hn (SD.out i hi cb hx).1)).trans HP.out)
    have HF := Lib.hid hf
    clear hf x1 m2
    have x1 := cell_of (j := 1) hb1 rfl
    clear hb1
    go_wp2_with fail
    go_region_with (first | (refine (fodder_drawn _ _ x1).mono ?_; rintro e w4 ⟨rfl, rfl⟩) | fail)
    go_wp2
    go_end0
    obtain ⟨e1, e2⟩ := flds_end hS hSg hgb hcap HR.out SD.out D12.out DD.out DI.out HB.out hgl HF.out
    exact (show Noded _ _ _ _ _ _ _ from ⟨rfl, e1, e2⟩).drew
  · obtain rfl : l = [] := List.eq_nil_of_length_eq_zero (by omega)
    have x0 := cell_of (j := 0) hb rfl
    have HB := Lib.hid hb
    simp only [List.length_nil] at x0
    have C := Lib.hid (base_fields0 (w := w.drew) (r := .pointer (some ⟨cb, 0, none⟩)) (p := .iface yp (.pointer (some ⟨cb, 0, none⟩))) x0)
    clear hb hr ss d12 dd di a1 a2 ok hg P hM hM0 hME x0 hp hMs
    go_enter Tryz.func88, Tryz.ntmps88
    go_wp2_with fail
    go_region_with (first | (refine C.out.mono ?_; rintro e w1 ⟨rfl, rfl⟩) | fail)
    have mf := PP.out.fodder w.drew.drew HP.out
    go_wp2_with fail
    go_region_with (first | (refine (fodder_drawn _ _ (w := w.drew) x1).mono ?_; rintro e w4 ⟨rfl, rfl⟩) | fail)
    go_wp2
    go_end0
    exact (show Noded w S (.mk 20 ByteArray.empty 0 false (([] : List Tr).map G)) 128 b (.returned (.tuple #[])) w from ⟨rfl, Within.refl _ _, .object b g cur p0 p1 p2 n0 n1 n2 cap tc a (.inr ⟨hS, zb⟩) (fun h => absurd h (by simp)) (Nat.zero_le _) (F := F) (fun i t h => by simp at h) (S1 := fun _ _ => False) (S2 := fun _ _ => False) (fun i h => absurd h (by simp)) (fun i h => absurd h (by simp)) (fun i j _ h => absurd h (by simp)) (fun i j _ h => absurd h (by simp)) HB.out (fun i k op fl t1 t2 h => by simp at h) (fun i t u h => by simp at h)⟩).drew.drew
end Go.Proofs.YtlgajopaokjjaaaGreatFmt
