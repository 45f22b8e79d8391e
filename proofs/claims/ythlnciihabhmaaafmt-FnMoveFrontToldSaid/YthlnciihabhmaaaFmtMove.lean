/-
  ast.FodderMoveFront, impl.MoveFront: what they return. Conditions: the lists' lengths, the numbers of blank lines.
-/
import Derived.Test.YthlnciihabhmaaaFmtImpl
namespace Go.Proofs.YthlnciihabhmaaaFmt
open Go.ChangeShapes Go.WideShapes Go.ChangeAt Go.RowKit Go.Joins

/-- A comment lies in no variable that holds a slice. -/
theorem Comm.far_var {w : World} {u : Value} {ss : List ByteArray} (h : Comm w u ss) {A : Nat} {t : TypeId} {a : Option Addr} {n c : Nat} (hA : Var w A t (.slice a n c)) : Far (fun k => k = A) u ss := fun h0 b hb e => by
  subst e
  rcases h with ⟨rfl, _⟩ | ⟨_, b', off, cap, rfl, hlt, hc⟩
  · simp at h0
  · have e : b' = b := by simpa [Value.ownBlock] using hb
    subst e
    have h1 := hc 0 ss[0] (List.getElem?_eq_getElem h0)
    rw [cell_of_row _ _ _ _ _ _ hA] at h1
    have hz : off + 0 = 0 ∨ 0 < off + 0 := by omega
    rcases hz with hz | hz
    · rw [hz] at h1
      simp at h1
    · obtain ⟨m, hm⟩ : ∃ m, off + 0 = m + 1 := ⟨off + 0 - 1, by omega⟩
      rw [hm] at h1
      simp at h1
theorem Cells.far_var {f : Pc → Value → List Value} {X : Nat → Prop} {w : World} {A : Nat} {t : TypeId} {a : Option Addr} {n c : Nat} (hA : Var w A t (.slice a n c)) : ∀ {ps : List Pc} {xs : List Value}, Cells f X w ps xs → Cells f (fun k => X k ∨ k = A) w ps xs
  | [], _, h => h
  | _ :: _, _, ⟨u, ys, hc, hf, hr, e⟩ => ⟨u, ys, hc, fun h0 b hb hx => hx.elim (hf h0 b hb) (hc.far_var hA h0 b hb), hr.far_var hA, e⟩
theorem OwnX.far_var {f : Pc → Value → List Value} {X : Nat → Prop} {base : Nat} {t t' : TypeId} {w : World} {v : Value} {ps : List Pc} {A : Nat} {a : Option Addr} {n c : Nat} (h : OwnX f X base t w v ps) (hA : Var w A t' (.slice a n c)) : OwnX f (fun k => X k ∨ k = A) base t w v ps := by
  obtain ⟨xs, ho, hc⟩ := h
  exact ⟨xs, ho, (hc.far_var hA).far fun b hb => .inl (by
    rcases hb with (hb | hb) | hb
    · exact .inl (.inl hb)
    · exact .inr hb
    · exact .inl (.inr hb))⟩
theorem OwnX.ne_var {f : Pc → Value → List Value} {X : Nat → Prop} {base : Nat} {t t' : TypeId} {w : World} {v x : Value} {ps : List Pc} {A : Nat} (h : OwnX f X base t w v ps) (hA : Var w A t' x) (ht : t ≠ t') : v.ownBlock ≠ some A := by
  obtain ⟨xs, ho, _⟩ := h
  exact hA.ne_ ho ht

/-- What is left when pieces were moved to the front. -/
def Moved (base A B : Nat) (w : World) (vb : Value) (qs : List Pc) (e : Ending) (w' : World) : Prop :=
  e = .returned (.tuple #[]) ∧ ∃ v g, Var w' A 62 v ∧ Own eV base 56 w' v qs ∧ Var w' B 62 (.slice (some ⟨g, 0, none⟩) 0 0) ∧ Only (fun k => k = A ∨ k = B ∨ vb.ownBlock = some k) w w'
theorem moveFront {w : World} {A B base : Nat} {va vb : Value} {ps qs : List Pc} (hA : Var w A 62 va) (hB : Var w B 62 vb) (hAB : A ≠ B) (hO : Own eV base 56 w vb qs) (hO' : OwnX eV (fun k => vb.ownBlock = some k) base 56 w va ps) (hbase : base ≤ w.heap.size)
    (hne : ∀ k, vb.ownBlock = some k → va.ownBlock ≠ some k) (hm : (ps.length : Int) ≤ 1000) (hm' : (qs.length : Int) ≤ 1000) (hk : ∀ p ∈ ps, p.k = 0 ∨ p.k = 1 ∨ p.k = 2) (hb : ∀ q ∈ ps, 0 ≤ q.bl ∧ q.bl ≤ 1000000) (hb' : ∀ q ∈ qs, 0 ≤ q.bl ∧ q.bl ≤ 1000000) (hn : ∀ q ∈ ps, q.ss.length ≤ 1000000) :
    Calls Tryf.prog 46 #[.pointer (some ⟨A, 0, none⟩), .pointer (some ⟨B, 0, none⟩)] w (Moved base A B w vb (joinP qs ps)) := by
  obtain ⟨a, cap, rfl⟩ := hO'.pcs.form
  obtain ⟨b, capb, rfl⟩ := hO.pcs.form
  have x0 := hA.lt
  have x1 := hA.cell
  have x2 := hA.free
  have z0 := hB.lt
  have z1 := hB.cell
  have HA := Lib.hid hA
  have HB := Lib.hid hB
  have HAB := Lib.hid hAB
  have HO := Lib.hid hO
  have HO' := Lib.hid hO'
  have HNA := Lib.hid (hO.ne_var hA (by decide))
  have HNB := Lib.hid (hO.ne_var hB (by decide))
  have hcc : Calls Tryf.prog 45 #[.slice b qs.length capb, .slice a ps.length cap] w.drew (Joined base w.drew (.slice b qs.length capb) (joinP qs ps)) :=
    fodderConcat (hO.below (Below.refl _ _).drew) (hO'.below (Below.refl _ _).drew) (Nat.le_refl _) hbase hne hm' hm hk hb' hb hn
  have HC := Lib.hid hcc; clear hcc
  clear hA hB hAB hO hO' hk hb hb' hn hne
  go_enter Tryf.func46, Tryf.ntmps46
  go_wp2
  go_region_law ((refine step_call (by rfl) HC.out (by go_simp) ?_; rintro e w4 ⟨v4, rfl, ho4, hn4⟩; obtain ⟨a4, cap4, rfl⟩ := ho4.pcs.form; refine ⟨_, rfl, ?_⟩; have hB4 : Only (fun k => (Value.slice b qs.length capb).ownBlock = some k) w w4 := (Only.refl _ w).drew.trans hn4; have HV4 := Lib.hid (HA.out.only hB4 HNA.out); have HW4 := Lib.hid (HB.out.only hB4 HNB.out); have y1 := HV4.out.cell; have y2 := HV4.out.free; have HO4 := Lib.hid ho4; clear ho4 hn4))
  all_goals
    have HV5 := Lib.hid (HV4.out.set_ (.slice a4 (joinP qs ps).length cap4)); clear y1 y2
    have HW5 := Lib.hid (HW4.out.only ((Only.refl (fun k => k = A) w4).set (p := ⟨A, 0, none⟩) (.inr rfl) (.slice a4 (joinP qs ps).length cap4)) (fun e => HAB.out e.symm))
    have HN4 := Lib.hid (HO4.out.ne_var HV4.out (by decide))
    have HO5 := Lib.hid ((HO4.out.far_var HV4.out).only (Y := fun _ => False) ((Only.refl (fun k => k = A) w4).set (p := ⟨A, 0, none⟩) (.inr rfl) (.slice a4 (joinP qs ps).length cap4)) (fun k hk => .inl (.inr hk)) (fun k hk e => HN4.out (by rw [hk, e])) (fun k hk => .inl (.inl hk)))
    have HB5 := Lib.hid (hB4.mono (T := fun k => k = A ∨ k = B ∨ (Value.slice b qs.length capb).ownBlock = some k) (fun k hk => .inr (.inr hk)) |>.set (p := ⟨A, 0, none⟩) (.inr (.inl rfl)) (.slice a4 (joinP qs ps).length cap4))
    obtain ⟨w5, hw5⟩ : ∃ w5, w5 = w4.setCell ⟨A, 0, none⟩ (.slice a4 (joinP qs ps).length cap4) := ⟨_, rfl⟩
    rw [← hw5] at HV5 HW5 HO5 HB5 ⊢
    clear hw5
    have u0 := HW5.out.lt
    have u1 := HW5.out.cell
    have u2 := HW5.out.free
    go_wp2
    go_end0
    have hset := (Only.refl (fun k => k = B) w5).set (p := ⟨B, 0, none⟩) (.inr rfl) (.slice (some ⟨w5.heap.size, 0, none⟩) 0 0)
    have hal := below_alloc1 (w5.setCell ⟨B, 0, none⟩ (.slice (some ⟨w5.heap.size, 0, none⟩) 0 0)) (.cells #[] 56)
    exact ⟨rfl, _, w5.heap.size, (HV5.out.only hset HAB.out).below hal, ((HO5.out.far_var HW5.out).only (Y := fun _ => False) hset (fun k hk => .inl (.inr hk)) (fun k hk e => HO5.out.ne_var HW5.out (by decide) (by rw [hk, e])) (fun k hk => .inl (.inl hk))).below hal, (HW5.out.set_ _).below hal, (HB5.out.set (p := ⟨B, 0, none⟩) (.inr (.inr (.inl rfl))) _).step hal⟩

theorem implMoveFront {w : World} {v v' : Value} {ps qs : List Pc} (h : Pcs pV w v ps) (h' : Pcs pV w v' qs) (hm : (ps.length : Int) ≤ 1000) (hm' : (qs.length : Int) ≤ 1000) (hk : ∀ p ∈ ps, p.k = 0 ∨ p.k = 1 ∨ p.k = 2) (hb : ∀ q ∈ ps, 0 ≤ q.bl ∧ q.bl ≤ 1000000) (hb' : ∀ q ∈ qs, 0 ≤ q.bl ∧ q.bl ≤ 1000000) (hn : ∀ q ∈ ps, q.ss.length ≤ 1000000) (hn' : ∀ q ∈ qs, q.ss.length ≤ 1000000) :
    Calls Tryf.prog 35 #[v, v'] w fun e w' => (∃ x y, e = .returned (.tuple #[x, y]) ∧ Pcs pV w' x (joinP qs ps) ∧ ∃ a cap, y = .slice a 0 cap) ∧ Below w.heap.size w w' := by
  obtain ⟨a, cap, rfl⟩ := h.form
  obtain ⟨a', cap', rfl⟩ := h'.form
  have HP := Lib.hid h
  have HP' := Lib.hid h'
  have HK := Lib.hid hk
  have HB := Lib.hid hb
  have HB' := Lib.hid hb'
  have HN := Lib.hid hn
  have HN' := Lib.hid hn'
  have HL := Lib.hid (joinP_len' qs ps)
  clear h h' hk hb hb' hn hn'
  go_enter Tryf.func35, Tryf.ntmps35
  go_wp2_with fail
  go_at_call 41
  refine (fodder_pcs HP.out (by omega) HN.out).mono ?_
  rintro e w2 ⟨⟨v1, rfl, ho⟩, hb2⟩
  obtain ⟨a1, cap1, rfl⟩ := ho.pcs.form
  have HO := Lib.hid ho; clear ho
  go_wp2_with fail
  go_at_call 41
  refine (fodder_pcs (HP'.out.below hb2) (by omega) HN'.out).mono ?_
  rintro e w3 ⟨⟨v2, rfl, ho⟩, hb3⟩
  obtain ⟨a2, cap2, rfl⟩ := ho.pcs.form
  have HO2 := Lib.hid ho; clear ho
  have hB3 := hb2.trans (hb3.mono hb2.size)
  have hal := below_alloc2 w3 (.cells #[.slice a1 ps.length cap1] 62) (.cells #[.slice a2 qs.length cap2] 62)
  have hB4 := hB3.trans (hal.mono hB3.size)
  have hVA : Var ((w3.alloc (.cells #[.slice a1 ps.length cap1] 62)).alloc (.cells #[.slice a2 qs.length cap2] 62)) w3.heap.size 62 (.slice a1 ps.length cap1) := (Below.heap_alloc _ _ _ (by simp)).trans (heap_alloc_new w3 _)
  have hVB : Var ((w3.alloc (.cells #[.slice a1 ps.length cap1] 62)).alloc (.cells #[.slice a2 qs.length cap2] 62)) (w3.heap.size + 1) 62 (.slice a2 qs.length cap2) := by
    have e : (w3.alloc (.cells #[.slice a1 ps.length cap1] 62)).heap.size = w3.heap.size + 1 := by simp
    rw [← e]
    exact heap_alloc_new _ _
  have VA := Lib.hid hVA; clear hVA
  have VB := Lib.hid hVB; clear hVB
  have hfar : ∀ k, (Value.slice a2 qs.length cap2).ownBlock = some k → w2.heap.size ≤ k := fun k hk => (HO2.out.lt hk).1
  have HFA := Lib.hid hfar; clear hfar
  have OA := Lib.hid (((HO.out.far (Y := fun k => (Value.slice a2 qs.length cap2).ownBlock = some k) fun k hk => .inr (HFA.out k hk)).below hb3).below hal)
  have OB := Lib.hid (((HO2.out.base hb2.size).far (Y := fun _ => False) (fun _ h => h.elim)).below hal)
  have HNE := Lib.hid (show ∀ k, (Value.slice a2 qs.length cap2).ownBlock = some k → (Value.slice a1 ps.length cap1).ownBlock ≠ some k from fun k hk e => by
    have h1 := HFA.out k hk
    have h2 := (HO.out.lt e).2
    omega)
  go_wp2_with fail
  go_at_call 46
  refine (moveFront VA.out VB.out (by omega) OB.out OA.out hB4.size HNE.out hm hm' HK.out HB.out HB'.out HN.out).mono ?_
  rintro e w6 ⟨rfl, vx, g, hvx, hox, hvy, hn6⟩
  obtain ⟨ax, capx, rfl⟩ := hox.pcs.form
  have x0 := hvx.lt
  have x1 := hvx.cell
  have y0 := hvy.lt
  have y1 := hvy.cell
  have PX := Lib.hid hox.pcs
  have hB6 := hB4.trans (hn6.below hB4.size (fun k hk => by
    rcases hk with hk | hk | hk
    · have := hB3.size
      omega
    · have := hB3.size
      omega
    · have := HFA.out k hk
      have := hb2.size
      omega))
  clear hvx hox hvy hn6 hal
  have PY : ∀ w', Pcs eV w' (.slice (some ⟨g, 0, none⟩) 0 0) [] := fun w' => ⟨_, 0, [], rfl, Nat.le_refl _, rfl, fun h => by simp at h⟩
  have HPY := Lib.hid PY; clear PY
  have hml : ((joinP qs ps).length : Int) ≤ 2147483647 := by have := HL.out; omega
  go_wp2
  go_region_held3 (Stay w6) (first | (with_reducible assumption) | (exact stay_start _) | (exact stay_step (by assumption) (by assumption))) ((first | (go_at_call 43; with_reducible (refine (implPieces_pcs (ps := joinP qs ps) (PX.out.below (And.left ‹Stay w6 _›)) hml).mono ?_); rintro e w8 ⟨⟨v8, rfl, ho8⟩, hb8⟩; have OX := Lib.hid ho8.pcs; clear ho8) | (go_at_call 43; with_reducible (refine (implPieces_pcs (ps := []) (HPY.out _) (by simp)).mono ?_); rintro e w9 ⟨⟨v9, rfl, ho9⟩, hb9⟩; have OY := Lib.hid ho9.pcs.form; clear ho9)))
  all_goals
    obtain ⟨ay, capy, rfl⟩ := OY.out
    have hSS : Stay w6 w9 := by assumption
    have hB9 := hB6.trans (hSS.1.mono hB6.size)
    clear hSS
    have OX9 := Lib.hid (OX.out.below hb9)
    go_wp2
    go_ret2
    exact ⟨⟨_, _, rfl, OX9.out, _, _, rfl⟩, hB9⟩
end Go.Proofs.YthlnciihabhmaaaFmt
