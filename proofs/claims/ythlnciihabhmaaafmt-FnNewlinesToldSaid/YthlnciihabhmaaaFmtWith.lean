/-
  spec.With, spec.Append, spec.Join over lists of pieces. Conditions: the lists' lengths.
-/
import Derived.Test.YthlnciihabhmaaaFmtSpecs
namespace Go.Proofs.YthlnciihabhmaaaFmt
open Go.ChangeShapes Go.WideShapes Go.ChangeAt Go.RowKit Go.Joins

theorem Cells.one_ {f : Pc → Value → List Value} {X : Nat → Prop} {w : World} (h1 : ∀ p u, Comm w u p.ss → ∀ c ∈ f p u, c.oneCell' = true) : ∀ {ps : List Pc} {xs : List Value}, Cells f X w ps xs → ∀ c ∈ xs, c.oneCell' = true
  | [], _, h => by
    have e : _ = [] := h
    subst e
    simp
  | p :: ps, _, ⟨u, ys, hc, _, hr, e⟩ => by
    subst e
    intro c hc'
    rcases List.mem_append.1 hc' with h | h
    · exact h1 p u hc c h
    · exact hr.one_ h1 c h
theorem Cells.nil_ (f : Pc → Value → List Value) (X : Nat → Prop) (w : World) : Cells f X w [] [] := rfl
/-- The four cells that were laid into a new block, in a later world. -/
theorem box4 {w w' : World} {c0 c1 c2 c3 : Value} {t : TypeId} (hb : w'.heap[w.heap.size]? = some (.cells #[c0, c1, c2, c3] t)) :
    w'.cell? ⟨w.heap.size, 0, none⟩ = some c0 ∧ w'.cell? ⟨w.heap.size, 1, none⟩ = some c1 ∧ w'.cell? ⟨w.heap.size, 2, none⟩ = some c2 ∧ w'.cell? ⟨w.heap.size, 3, none⟩ = some c3 ∧ ∀ j, w'.frozen? ⟨w.heap.size, j, none⟩ = false :=
  ⟨cell_of_row _ _ 0 _ _ _ hb, cell_of_row _ _ 1 _ _ _ hb, cell_of_row _ _ 2 _ _ _ hb, cell_of_row _ _ 3 _ _ _ hb, fun j => unfrozen_of_block hb j⟩

theorem with_pcs {w : World} {v u : Value} {ps : List Pc} {p : Pc} (h : Pcs pV w v ps) (hu : Comm w u p.ss) (hm : (ps.length : Int) ≤ 2147483647) :
    Calls Tryf.prog 30 #[v, .agg #[.int .i64 p.k, .int .i64 p.bl, .int .i64 p.ind, u]] w fun e w' => (∃ v', e = .returned v' ∧ Own pV w.heap.size 26 w' v' (ps ++ [p])) ∧ Below w.heap.size w w' := by
  obtain ⟨a, cap, xs, rfl, _, hcs, hcell⟩ := h
  obtain ⟨ua, ucap, rfl⟩ := hu.form
  obtain ⟨i0, hi0, hz0, hs0, hb0⟩ := info_parts infoS
  have hB1 : Below w.heap.size w ((w.alloc (.cells #[.int .i64 p.k, .int .i64 p.bl, .int .i64 p.ind, .slice ua p.ss.length ucap] 26)).alloc (.cells #[] 26)) := below_alloc2 _ _ _
  have hown : ((w.alloc (.cells #[.int .i64 p.k, .int .i64 p.bl, .int .i64 p.ind, .slice ua p.ss.length ucap] 26)).alloc (.cells #[] 26)).ownsRow w.heap.size 26 4 (.slice (some ⟨w.heap.size + 1, 0, none⟩) 0 0) 0 [] :=
    ⟨rfl, .inr ⟨w.heap.size + 1, 0, #[], rfl, by omega, by have := heap_alloc_new (w.alloc (.cells #[.int .i64 p.k, .int .i64 p.bl, .int .i64 p.ind, .slice ua p.ss.length ucap] 26)) (.cells #[] 26); simpa using this, Nat.le_refl _, by unfold maxLen; omega, rfl, rfl⟩⟩
  have HO := Lib.hid hown; clear hown
  have hbox : ((w.alloc (.cells #[.int .i64 p.k, .int .i64 p.bl, .int .i64 p.ind, .slice ua p.ss.length ucap] 26)).alloc (.cells #[] 26)).heap[w.heap.size]? = some (.cells #[.int .i64 p.k, .int .i64 p.bl, .int .i64 p.ind, .slice ua p.ss.length ucap] 26) := (Below.heap_alloc _ _ _ (by simp)).trans (heap_alloc_new w _)
  have HX := Lib.hid hbox; clear hbox
  have HU := Lib.hid hu
  rcases Nat.eq_zero_or_pos ps.length with h0 | h0
  · obtain rfl := List.eq_nil_of_length_eq_zero h0
    clear h0 hcell hcs hm hu
    have hY : Below w.heap.size w (((w.alloc (.cells #[.int .i64 p.k, .int .i64 p.bl, .int .i64 p.ind, .slice ua p.ss.length ucap] 26)).alloc (.cells #[] 26)).alloc (.cells #[.int .i64 p.k, .int .i64 p.bl, .int .i64 p.ind, .slice ua p.ss.length ucap] 26)) := below_alloc3 _ _ _ _
    have HO2 := Lib.hid (ownsRow_below HO.out (below_alloc1 _ (.cells #[.int .i64 p.k, .int .i64 p.bl, .int .i64 p.ind, .slice ua p.ss.length ucap] 26)))
    have HU2 := Lib.hid (HU.out.below hY)
    obtain ⟨x0, x1, x2, x3, xf⟩ := box4 HX.out
    have hnews : ∀ j c, (pV p (.slice ua p.ss.length ucap))[j]? = some c → (((w.alloc (.cells #[.int .i64 p.k, .int .i64 p.bl, .int .i64 p.ind, .slice ua p.ss.length ucap] 26)).alloc (.cells #[] 26)).alloc (.cells #[.int .i64 p.k, .int .i64 p.bl, .int .i64 p.ind, .slice ua p.ss.length ucap] 26)).cell? ((⟨w.heap.size + 1 + 1, 0, none⟩ : Addr).add j) = some c := by
      have := news4 (w := (w.alloc (.cells #[.int .i64 p.k, .int .i64 p.bl, .int .i64 p.ind, .slice ua p.ss.length ucap] 26)).alloc (.cells #[] 26)) (t := 26) (l := pV p (.slice ua p.ss.length ucap)) rfl
      simpa using this
    have HN := Lib.hid hnews; clear hnews
    go_enter Tryf.func30, Tryf.ntmps30
    go_wp2_with (first | (at_builtin; refine wpList_append_zero rfl (.tmp 7) (.tmp 8) 37 rfl w.heap.size 26 i0 4 Tryf.underlying37 hi0 (.slice (some ⟨w.heap.size + 1, 0, none⟩) 0 0) _ _ rfl HO.out a cap rfl ?_) | (at_builtin; refine wpList_append_lies _ rfl (.tmp 10) (.tmp 12) 37 rfl w.heap.size 26 i0 (.agg #[.int .i64 0, .int .i64 0, .int .i64 0, .slice none 0 0]) 4 48 Tryf.underlying37 hi0 hz0 hs0 hb0 rfl (by omega) (.slice (some ⟨w.heap.size + 1, 0, none⟩) 0 0) 0 [] rfl HO2.out ⟨w.heap.size + 1 + 1, 0, none⟩ 1 1 (pV p (.slice ua p.ss.length ucap)) rfl rfl HN.out (pV_one HU.out) (by omega) (by unfold maxLen; omega) (by omega) hY.size _ rfl ?_; intro g cap1 w1 hown1 hgrow1 hat1 hlt1))
    have hO3 := OwnX.push (qs := []) (Cells.nil_ _ _ _) HU2.out (HU.out.far_new fun k hk => (HO2.out.lt k (hk.elim False.elim id)).1) hown1 rfl hgrow1 hat1
    have hB4 := hY.grown hgrow1 hY.size (fun k hk => (HO2.out.lt k hk).1)
    go_ret
    exact ⟨⟨_, rfl, hO3⟩, hB4⟩
  · obtain ⟨b, off, rfl, hlt, hcell⟩ := hcell h0
    have hnews : ∀ j c, xs[j]? = some c → ((w.alloc (.cells #[.int .i64 p.k, .int .i64 p.bl, .int .i64 p.ind, .slice ua p.ss.length ucap] 26)).alloc (.cells #[] 26)).cell? ((⟨b, off, none⟩ : Addr).add j) = some c := fun j c hj => by
      have hadd : (⟨b, off, none⟩ : Addr).add j = ⟨b, off + j, none⟩ := by unfold Addr.add; split <;> simp_all
      rw [hadd, (bcell hB1).1 b _ hlt]
      exact hcell j c hj
    have HN := Lib.hid hnews; clear hnews hcell
    have hl := hcs.length pV4
    have hone := hcs.one_ fun p u h => pV_one h
    have HC := Lib.hid hcs; clear hcs hu
    have HL := Lib.hid hl; clear hl
    have H1 := Lib.hid hone; clear hone
    go_enter Tryf.func30, Tryf.ntmps30
    go_wp2_with (first | (at_builtin; refine wpList_append_lies _ rfl (.tmp 7) (.tmp 8) 37 rfl w.heap.size 26 i0 (.agg #[.int .i64 0, .int .i64 0, .int .i64 0, .slice none 0 0]) 4 48 Tryf.underlying37 hi0 hz0 hs0 hb0 rfl (by omega) (.slice (some ⟨w.heap.size + 1, 0, none⟩) 0 0) 0 [] rfl HO.out ⟨b, off, none⟩ ps.length cap xs rfl HL.out HN.out H1.out h0 (by unfold maxLen; omega) (by omega) hB1.size _ rfl ?_; intro g cap1 w1 hown1 hgrow1 hat1 hlt1; rw [Nat.zero_add] at hown1; have HO1 := Lib.hid hown1; clear hown1; obtain ⟨x0, x1, x2, x3, xf⟩ := box4 (w' := w1) (w := w) ((hgrow1.block w.heap.size (by simp; omega) (by simp [Value.ownBlock])).trans HX.out); have hB2 := hB1.grown hgrow1 hB1.size (fun k hk => (HO.out.lt k hk).1); have hB3 := hB2.trans ((below_alloc1 w1 (.cells #[.int .i64 p.k, .int .i64 p.bl, .int .i64 p.ind, .slice ua p.ss.length ucap] 26)).mono hB2.size); have HO2 := Lib.hid (ownsRow_below HO1.out (below_alloc1 w1 (.cells #[.int .i64 p.k, .int .i64 p.bl, .int .i64 p.ind, .slice ua p.ss.length ucap] 26))); clear hgrow1 hat1) | (at_builtin; refine wpList_append_lies _ rfl (.tmp 10) (.tmp 12) 37 rfl w.heap.size 26 i0 (.agg #[.int .i64 0, .int .i64 0, .int .i64 0, .slice none 0 0]) 4 48 Tryf.underlying37 hi0 hz0 hs0 hb0 rfl (by omega) (.slice (some ⟨g, 0, none⟩) ps.length cap1) ps.length ([] ++ xs) rfl HO2.out ⟨w1.heap.size, 0, none⟩ 1 1 (pV p (.slice ua p.ss.length ucap)) rfl rfl (news4 rfl) (pV_one HU.out) (by omega) (by unfold maxLen; omega) (by omega) hB3.size _ rfl ?_; intro g2 cap2 w2 hown2 hgrow2 hat2 hlt2))
    have hC2 := ((HC.out.far_new (Y := fun k => False ∨ (Value.slice (some ⟨g, 0, none⟩) ps.length cap1).ownBlock = some k) (fun k hk => (HO2.out.lt k (hk.elim False.elim id)).1)).below hB3)
    have hO3 := OwnX.push hC2 (HU.out.below hB3) (HU.out.far_new fun k hk => (HO2.out.lt k (hk.elim False.elim id)).1) hown2 rfl hgrow2 hat2
    have hB4 := hB3.grown hgrow2 hB3.size (fun k hk => (HO2.out.lt k hk).1)
    go_ret
    exact ⟨⟨_, rfl, hO3⟩, hB4⟩
end Go.Proofs.YthlnciihabhmaaaFmt
