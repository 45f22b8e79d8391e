/-
  ast.FodderAppend, two more of its ways. Conditions: the lists' lengths, the numbers of blank lines.
-/
import Derived.Test.YthlnciihabhmaaaFmtFodder
namespace Go.Proofs.YthlnciihabhmaaaFmt
open Go.ChangeShapes Go.WideShapes Go.ChangeAt Go.RowKit Go.Joins

theorem eV_one'' {w : World} {k bl ind : Int} {u : Value} {ss : List ByteArray} (h : Comm w u ss) : ∀ c ∈ eV ⟨k, bl, ind, ss⟩ u, c.oneCell' = true := eV_one (p := ⟨k, bl, ind, ss⟩) h
theorem Cells.unsnoc {f : Pc → Value → List Value} {X : Nat → Prop} {w : World} {q : Pc} : ∀ {qs : List Pc} {xs : List Value}, Cells f X w (qs ++ [q]) xs → ∃ ys u, Cells f X w qs ys ∧ Comm w u q.ss ∧ Far X u q.ss ∧ xs = ys ++ f q u
  | [], xs, ⟨u, ys, hc, hf, hr, e⟩ => by
    have e' : ys = [] := hr
    subst e'
    exact ⟨[], u, rfl, hc, hf, by simpa using e⟩
  | p :: qs, xs, ⟨u, ys, hc, hf, hr, e⟩ => by
    obtain ⟨zs, u', h1, h2, h3, e'⟩ := Cells.unsnoc hr
    exact ⟨f p u ++ zs, u', ⟨u, zs, hc, hf, h1, rfl⟩, h2, h3, by rw [e, e', List.append_assoc]⟩
theorem set_two {ys : List Value} {a b c d c' d' : Value} {n : Nat} (hl : ys.length = n * 4) : ((ys ++ [a, b, c, d]).set (n * 4 + 3) d').set (n * 4 + 2) c' = ys ++ [a, b, c', d'] := by
  rw [List.set_append_right _ _ (by omega), List.set_append_right _ _ (by omega), hl, show n * 4 + 3 - n * 4 = 3 by omega, show n * 4 + 2 - n * 4 = 2 by omega]
  rfl
/-- The last element's numbers are set in place. -/
theorem own_last {X : Nat → Prop} {base : Nat} {t : TypeId} {w : World} {b off n cap : Nat} {qs : List Pc} {q : Pc} {bl' ind' : Int} (hn : n = qs.length) (hO : OwnX eV X base t w (.slice (some ⟨b, off, none⟩) (n + 1) cap) (qs ++ [q])) :
    OwnX eV X base t ((w.setCell ⟨b, off + n * 4 + 3, none⟩ (.int .i64 ind')).setCell ⟨b, off + n * 4 + 2, none⟩ (.int .i64 bl')) (.slice (some ⟨b, off, none⟩) (n + 1) cap) (qs ++ [{ q with ind := ind', bl := bl' }]) := by
  subst hn
  obtain ⟨xs, ho, hc⟩ := hO
  obtain ⟨ys, u, hcq, hu, hf, rfl⟩ := hc.unsnoc
  have hl := hcq.length eV4
  have hset : Only (fun k => k = b) w ((w.setCell ⟨b, off + qs.length * 4 + 3, none⟩ (.int .i64 ind')).setCell ⟨b, off + qs.length * 4 + 2, none⟩ (.int .i64 bl')) :=
    ((Only.refl (fun k => k = b) w).set (p := ⟨b, off + qs.length * 4 + 3, none⟩) (.inr rfl) _).set (p := ⟨b, off + qs.length * 4 + 2, none⟩) (.inr rfl) _
  refine ⟨ys ++ eV { q with ind := ind', bl := bl' } u, ⟨by simp [hl, eV]; omega, ?_⟩, ?_⟩
  · rcases ho.2 with ⟨h, _⟩ | ⟨g, cap', cur, h, hb, hh, hle, hcm, hsz, ht⟩
    · cases h
    · injection h with h h2 h3
      injection h with h
      injection h with h4 h5 _
      subst h4 h5 h3
      refine .inr ⟨b, cap, (cur.setIfInBounds (qs.length * 4 + 3) (.int .i64 ind')).setIfInBounds (qs.length * 4 + 2) (.int .i64 bl'), by simp, hb, ?_, by simpa using hle, hcm, by simpa using hsz, ?_⟩
      · simp [World.setCell, Array.getElem?_modify, hh]
      · simp only [Array.toList_setIfInBounds]
        rw [List.take_set, List.take_set]
        have ht' : cur.toList.take ((qs ++ [{ q with ind := ind', bl := bl' }]).length * 4) = ys ++ eV q u := by simpa using ht
        rw [ht']
        exact set_two hl
  · have h1 := (hcq.snoc (p := { q with ind := ind', bl := bl' }) (u := u) hu hf)
    exact h1.only hset (fun k hk _ => .inr (by rw [hk]; rfl))
theorem Var.far {w : World} {A : Nat} {t : TypeId} {v : Value} (h : Var w A t v) {p : Addr} (hp : p.block ≠ A) (u : Value) : Var (w.setCell p u) A t v := (Below.heap_setCell w p u A hp.symm).trans h
theorem below_drewN (w : World) (n : Nat) : Below w.heap.size w (w.drewN n) := ⟨rfl, rfl, rfl, Nat.le_refl _, fun _ _ => rfl⟩
/-- The end of a line without a comment behind a line. -/
theorem fappend_into {w : World} {A base : Nat} {v u : Value} {qs : List Pc} {q : Pc} {bl ind : Int} (hA : Var w A 62 v) (hO : OwnX eV (fun k => k = A) base 56 w v (qs ++ [q]))
    (hu : Comm w u []) (hm : ((qs ++ [q]).length : Int) ≤ 2147483646) (hr : cleanB (qs ++ [q]) = true) (h1 : 0 ≤ q.bl) (h2 : q.bl ≤ 1000000) (h3 : 0 ≤ bl) (h4 : bl ≤ 1000000) :
    Calls Tryf.prog 42 #[.pointer (some ⟨A, 0, none⟩), .agg #[u, .int .i64 0, .int .i64 bl, .int .i64 ind]] w (Appended base A w v (qs ++ [{ q with ind := ind, bl := q.bl + bl }])) := by
  obtain ⟨a, cap, ev⟩ := hO.pcs.form
  have hm2 : (qs.length : Int) ≤ 2147483645 := by rw [List.length_append, List.length_singleton] at hm; omega
  rw [List.length_append, List.length_singleton] at ev
  subst ev
  have HM := Lib.hid (show ((qs ++ [q]).length : Int) ≤ 2147483647 by omega); clear hm
  obtain ⟨ua, ucap, rfl⟩ := hu.form
  have hB1 := below_alloc1 w (.cells #[.slice ua 0 ucap, .int .i64 0, .int .i64 bl, .int .i64 ind] 56)
  have x0 := hA.lt
  have x1 := hA.cell
  have x2 := hA.free
  have HP1 := Lib.hid (hO.pcs.below hB1)
  have HR := Lib.hid hr
  obtain ⟨b, off, u', rfl, hlt, hu', c0, c1, c2, c3⟩ := hO.pcs.atE (i := qs.length) (p := q) (by simp)
  obtain ⟨xs, hown, hcs⟩ := hO
  have HO := Lib.hid hown
  have HC := Lib.hid hcs
  have HV := Lib.hid hA
  have HNE := Lib.hid (hA.ne_ hown (by decide))
  have hf : ∀ j, w.frozen? ⟨b, j, none⟩ = false := by
    rcases hown.2 with ⟨h, _⟩ | ⟨g, cap', cur, h, _, hh, _⟩
    · cases h
    · injection h with h _ _
      injection h with h
      injection h with h _ _
      subst h
      exact fun j => unfrozen_of_block hh j
  clear hA hown hcs hu hr hu'
  have hz0 : (0 : Int) ≤ (qs.length : Int) := by omega
  have hz1 : (qs.length : Int) ≤ (qs.length : Int) + 1 := by omega
  have hz2 : IntKind.i64.wrap (qs.length : Int) = qs.length := IntWalk.i64_in _ (by omega)
  go_enter Tryf.func42, Tryf.ntmps42
  go_wp2_with (go_at_call 48; refine (cleanE_is HP1.out HM.out HR.out).mono ?_; rintro e w' ⟨rfl, rfl⟩)
  go_quiet (fail)
  go_wp2
  go_region
  all_goals
    go_end0
    have hB2 : Below w.heap.size w ((w.alloc (.cells #[.slice ua 0 ucap, .int .i64 0, .int .i64 bl, .int .i64 ind] 56)).drewN nq) := hB1.trans ((below_drewN _ nq).mono hB1.size)
    have hO2 : OwnX eV (fun k => k = A) base 56 ((w.alloc (.cells #[.slice ua 0 ucap, .int .i64 0, .int .i64 bl, .int .i64 ind] 56)).drewN nq) (.slice (some ⟨b, off, none⟩) (qs.length + 1) cap) (qs ++ [q]) := OwnX.below ⟨xs, HO.out, HC.out⟩ hB2
    have hne : b ≠ A := fun e => HNE.out (by rw [← e]; rfl)
    refine ⟨rfl, _, (((HV.out.below hB2).far (p := ⟨b, off + qs.length * 4 + 3, none⟩) hne _).far (p := ⟨b, off + qs.length * 4 + 2, none⟩) hne _), (own_last rfl hO2).below (Below.refl _ _).drew, ?_, fun c hc => .inl hc⟩
    exact (((Only.of_below (S := fun k => k = A ∨ (Value.slice (some ⟨b, off, none⟩) (qs.length + 1) cap).ownBlock = some k) hB2).set (p := ⟨b, off + qs.length * 4 + 3, none⟩) (.inr (.inr rfl)) _).set (p := ⟨b, off + qs.length * 4 + 2, none⟩) (.inr (.inr rfl)) _).drew
end Go.Proofs.YthlnciihabhmaaaFmt
