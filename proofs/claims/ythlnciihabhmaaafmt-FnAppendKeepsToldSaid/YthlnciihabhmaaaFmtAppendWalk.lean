/-
  FnAppend's walk: a piece is appended as the constraints ask for. Conditions: the arguments read as pieces.
-/
import Derived.Test.YthlnciihabhmaaaFmtGood
import Derived.Test.YthlnciihabhmaaaFmtJoinKeepsWalk
namespace Go.Proofs.YthlnciihabhmaaaFmt
open Go.ChangeShapes Go.WideShapes Go.ChangeAt Go.RowKit Go.Joins

theorem stay_realloc {W1 w : World} {o o' : Obj} (h : Stay W1 (w.alloc o)) (hz : W1.heap.size ≤ w.heap.size) : Stay W1 (w.alloc o') := by
  have hb : Below W1.heap.size W1 w := ⟨h.1.os, h.1.tape, h.1.output, hz, fun k hk => (Below.heap_alloc w o k (by omega)).symm.trans (h.1.block k hk)⟩
  exact stay_of (hb.alloc hz o')
/-- A comment lies in no block without texts. -/
theorem Comm.far_nostr {w : World} {u : Value} {ss : List ByteArray} (h : Comm w u ss) {g : Nat} {cs : Array Value} {t : TypeId} (hg : w.heap[g]? = some (.cells cs t)) (hns : ∀ (j : Nat) (s : ByteArray), cs[j]? ≠ some (.string s)) : Far (fun k => k = g) u ss := fun h0 b hb e => by
  subst e
  rcases h with ⟨rfl, _⟩ | ⟨_, b', off, cap, rfl, hlt, hc⟩
  · simp at h0
  · have e : b' = b := by simpa [Value.ownBlock] using hb
    subst e
    have h1 := hc 0 ss[0] (List.getElem?_eq_getElem h0)
    rw [cell_of_row _ _ _ _ _ _ hg] at h1
    exact hns _ _ h1
theorem Cells.far_nostr {f : Pc → Value → List Value} {X : Nat → Prop} {w : World} {g : Nat} {cs : Array Value} {t : TypeId} (hg : w.heap[g]? = some (.cells cs t)) (hns : ∀ (j : Nat) (s : ByteArray), cs[j]? ≠ some (.string s)) : ∀ {ps : List Pc} {xs : List Value}, Cells f X w ps xs → Cells f (fun k => X k ∨ k = g) w ps xs
  | [], _, h => h
  | _ :: _, _, ⟨u, ys, hc, hf, hr, e⟩ => ⟨u, ys, hc, fun h0 b hb hx => hx.elim (hf h0 b hb) (hc.far_nostr hg hns h0 b hb), hr.far_nostr hg hns, e⟩
theorem set4_heap {w : World} {g : Nat} {z0 z1 z2 z3 a b c d : Value} {t : TypeId} (hg : w.heap[g]? = some (.cells #[z0, z1, z2, z3] t)) :
    ((((w.setCell ⟨g, 0, none⟩ a).setCell ⟨g, 1, none⟩ b).setCell ⟨g, 2, none⟩ c).setCell ⟨g, 3, none⟩ d).heap[g]? = some (.cells #[a, b, c, d] t) := by
  simp [World.setCell, Array.getElem?_modify, hg]
/-- A piece is stored into a new block: other pieces stay. -/
theorem set4_pcs {w : World} {base g : Nat} {t t' : TypeId} {v a b c d : Value} {ps : List Pc} (hO : Own pV base t w v ps) (hg : w.heap[g]? = some (.cells #[.int .i64 0, .int .i64 0, .int .i64 0, .slice none 0 0] t')) (hne : v.ownBlock ≠ some g) :
    Pcs pV ((((w.setCell ⟨g, 0, none⟩ a).setCell ⟨g, 1, none⟩ b).setCell ⟨g, 2, none⟩ c).setCell ⟨g, 3, none⟩ d) v ps := by
  obtain ⟨xs, ho, hc⟩ := hO
  have hset : Only (fun k => k = g) w ((((w.setCell ⟨g, 0, none⟩ a).setCell ⟨g, 1, none⟩ b).setCell ⟨g, 2, none⟩ c).setCell ⟨g, 3, none⟩ d) :=
    ((((Only.refl (fun k => k = g) w).set (p := ⟨g, 0, none⟩) (.inr rfl) a).set (p := ⟨g, 1, none⟩) (.inr rfl) b).set (p := ⟨g, 2, none⟩) (.inr rfl) c).set (p := ⟨g, 3, none⟩) (.inr rfl) d
  have hns : ∀ (j : Nat) (s : ByteArray), (#[Value.int .i64 0, .int .i64 0, .int .i64 0, .slice none 0 0] : Array Value)[j]? ≠ some (.string s) := fun j s h => by
    match j, h with
    | 0, h => simp at h
    | 1, h => simp at h
    | 2, h => simp at h
    | 3, h => simp at h
    | j + 4, h => simp at h
  have h1 : OwnX pV (fun k => k = g) base t w v ps := ⟨xs, ho, (hc.far_nostr hg hns).far fun k hk => .inl (by
    rcases hk with hk | hk
    · exact .inr hk
    · exact .inl (.inr hk))⟩
  exact (h1.only (Y := fun _ => False) hset (fun k hk => .inl hk) (fun k hk e => hne (by rw [hk, e])) (fun k hk => hk.elim)).pcs
set_option maxHeartbeats 4000000 in
theorem append_walk {W : World} {v0 u : Value} {l0 : List Pc} {p : Pc} (h0 : Pcs pV W v0 l0) (hu : Comm W u p.ss) (hl0 : (l0.length : Int) ≤ 9223372036854775807) (hs0 : ∀ p ∈ l0, (p.ss.length : Int) ≤ 9223372036854775807) (hsp : (p.ss.length : Int) ≤ 9223372036854775807) :
    Calls Tryf.prog 6 #[v0, .agg #[.int .i64 p.k, .int .i64 p.bl, .int .i64 p.ind, u]] W fun e W' => e = .returned (.bool true) ∧ Below W.heap.size W W' := by
  obtain ⟨a0, cap0, rfl⟩ := h0.form
  obtain ⟨ua, ucap, rfl⟩ := hu.form
  have hB0 := below_alloc1 W (.cells #[.int .i64 p.k, .int .i64 p.bl, .int .i64 p.ind, .slice ua p.ss.length ucap] 24)
  have HX0 := Lib.hid (heap_alloc_new W (.cells #[.int .i64 p.k, .int .i64 p.bl, .int .i64 p.ind, .slice ua p.ss.length ucap] 24))
  have H0 := Lib.hid h0
  have HU := Lib.hid hu
  have S0 := Lib.hid hs0
  clear h0 hu hs0
  go_enter Tryf.func6, Tryf.ntmps6
  go_wp2_with fail
  go_at_call 20
  refine (fits1_pcs (H0.out.below hB0) hl0 S0.out).mono ?_
  rintro e w1 ⟨⟨r, rfl, hr⟩, hb1⟩
  have hB1 := hB0.trans (hb1.mono hB0.size)
  have HX1 := Lib.hid ((hb1.block W.heap.size (by simp)).trans HX0.out)
  have hz1 : W.heap.size < w1.heap.size := by have := hb1.size; simp at this; omega
  cases r
  · clear hr hz1
    go_wp2
    go_ret
    exact ⟨rfl, hB1⟩
  have hm0 := hr rfl
  clear hr hb1
  obtain ⟨x0, x1, x2, x3, xf⟩ := box4 HX1.out
  go_wp2_with fail
  go_at_call 12
  refine (fits2_comm p.k p.bl p.ind (HU.out.below hB1) hsp).mono ?_
  rintro e w2 ⟨⟨r, rfl⟩, hb2⟩
  have hB2 := hB1.trans (hb2.mono hB1.size)
  cases r
  · clear hz1 x0 x1 x2 x3 xf
    go_wp2
    go_ret
    exact ⟨rfl, hB2⟩
  have HX2 := Lib.hid ((hb2.block W.heap.size hz1).trans HX1.out)
  have hz2 : W.heap.size < w2.heap.size := by have := hb2.size; omega
  clear hb2 x0 x1 x2 x3 xf
  obtain ⟨x0, x1, x2, x3, xf⟩ := box4 HX2.out
  have H2 := Lib.hid (H0.out.below hB2)
  go_wp2_with fail
  go_cut [5, 6] (fun s5 s6 wc => ∃ ax capx g, s5 = .slice ax l0.length capx ∧ s6 = .pointer (some ⟨g, 0, none⟩) ∧ Pcs pV wc (.slice ax l0.length capx) l0 ∧ wc.heap[g]? = some (.cells #[.int .i64 p.k, .int .i64 p.bl, .int .i64 p.ind, .slice ua p.ss.length ucap] 26) ∧ w2.heap.size ≤ g ∧ Below w2.heap.size w2 wc)
  case first =>
    go_region_held3 (Stay w2) (first | (with_reducible assumption) | (exact stay_start _) | (exact stay_step (by assumption) (by assumption)) | (exact stay_alloc (by assumption) _) | (exact stay_set (stay_set (stay_set (stay_set (by assumption) (by first | exact Nat.le_refl _ | exact hz3 | exact hz4) _) (by first | exact Nat.le_refl _ | exact hz3 | exact hz4) _) (by first | exact Nat.le_refl _ | exact hz3 | exact hz4) _) (by first | exact Nat.le_refl _ | exact hz3 | exact hz4) _) | (exact stay_realloc (by assumption) (by first | exact hz4 | exact hz3 | exact Nat.le_refl _))) ((first | (go_at_call 21; with_reducible (refine (lawsPieces_pcs (ps := l0) (H2.out.below (And.left ‹Stay w2 _›)) hm0).mono ?_); rintro e w3 ⟨⟨x, rfl, hx⟩, hb3⟩; have hz3 := Nat.le_trans (And.left ‹Stay w2 _›).size hb3.size; obtain ⟨ax, capx, rfl⟩ := hx.pcs.form; have HX := Lib.hid hx; clear hx; obtain ⟨hc3, hf3⟩ := bcell hb3; (try (have hq3 : w2.heap.size < w3.heap.size := by (have := hb3.size; simp at this; omega)))) | (go_at_call 13; with_reducible (refine (piece_any p.k p.bl p.ind ua p.ss.length ucap _).mono ?_); rintro e w4 ⟨rfl, hb4⟩; have hz4 := Nat.le_trans (And.left ‹Stay w2 _›).size hb4.size; obtain ⟨hc4, hf4⟩ := bcell hb4; (try (have hq4 : w3.heap.size < w4.heap.size := by (have := hb4.size; simp at this; omega))))))
    all_goals
      have hSS := Lib.hid ‹Stay w2 _›
      clear hc3 hf3 hc4 hf4
      go_wp2_with fail
      go_meet
    · exact ⟨ax, capx, _, rfl, rfl, ((HX.out.below hb4).below (below_alloc1 _ _)).pcs, heap_alloc_new _ _, hz4, hSS.out.1⟩
    · have hZ := (hb4.block w3.heap.size (by simp)).trans (heap_alloc_new w3 _)
      exact ⟨ax, capx, _, rfl, rfl, set4_pcs ((HX.out.below (below_alloc1 _ _)).below hb4) hZ (fun e => by have := (HX.out.lt e).2; omega), set4_heap hZ, hz3, hSS.out.1⟩
    · have hZ := (hb4.block w2.heap.size (by have := hb3.size; simp at this; omega)).trans ((hb3.block w2.heap.size (by simp)).trans (heap_alloc_new w2 _))
      exact ⟨ax, capx, _, rfl, rfl, set4_pcs (HX.out.below hb4) hZ (fun e => by have := (HX.out.lt e).1; simp at this; omega), set4_heap hZ, Nat.le_refl _, hSS.out.1⟩
  case rest =>
    obtain ⟨ax, capx, g, rfl, rfl, hX, hg, hgz, hcB⟩ := hcut
    have X := Lib.hid hX
    have HG := Lib.hid hg
    have hglt : g < wc.heap.size := by
      rcases Nat.lt_or_ge g wc.heap.size with h | h
      · exact h
      · rw [Array.getElem?_eq_none h] at hg; cases hg
    have HB3 := Lib.hid hcB
    have hB3 := hB2.trans (hcB.mono hB2.size)
    clear hX hg hcB
    clear x0 x1 x2 x3 xf
    have HXc := Lib.hid ((HB3.out.block W.heap.size hz2).trans HX2.out)
    have hzc : W.heap.size < wc.heap.size := by have := HB3.out.size; omega
    go_wp2_with fail
    go_at_call 22
    refine (good_pcs X.out hm0 S0.out).mono ?_
    rintro e w5 ⟨⟨r, rfl, hr⟩, hb5⟩
    have hB5 := hB3.trans (hb5.mono hB3.size)
    cases r
    · clear hr
      go_wp2
      go_ret
      exact ⟨rfl, hB5⟩
    have G0 := Lib.hid (good_facts (hr rfl))
    clear hr
    have HG5 := Lib.hid ((hb5.block g hglt).trans HG.out)
    have HX5 := Lib.hid ((hb5.block W.heap.size hzc).trans HXc.out)
    have X5 := Lib.hid (X.out.below hb5)
    have hg5 : g < w5.heap.size := Nat.lt_of_lt_of_le hglt hb5.size
    have hz5 : W.heap.size < w5.heap.size := Nat.lt_of_lt_of_le hzc hb5.size
    clear hb5
    obtain ⟨y0, y1, y2, y3, yf⟩ : w5.cell? ⟨g, 0, none⟩ = some (.int .i64 p.k) ∧ w5.cell? ⟨g, 1, none⟩ = some (.int .i64 p.bl) ∧ w5.cell? ⟨g, 2, none⟩ = some (.int .i64 p.ind) ∧ w5.cell? ⟨g, 3, none⟩ = some (.slice ua p.ss.length ucap) ∧ ∀ j, w5.frozen? ⟨g, j, none⟩ = false :=
      ⟨cell_of_row _ _ 0 _ _ _ HG5.out, cell_of_row _ _ 1 _ _ _ HG5.out, cell_of_row _ _ 2 _ _ _ HG5.out, cell_of_row _ _ 3 _ _ _ HG5.out, fun j => unfrozen_of_block HG5.out j⟩
    go_wp2_with fail
    go_at_call 14
    refine (sound_comm p.k p.bl p.ind (HU.out.below hB5) hsp).mono ?_
    rintro e w6 ⟨⟨r, rfl, hr⟩, hb6⟩
    have hB6 := hB5.trans (hb6.mono hB5.size)
    cases r
    · clear hr
      go_wp2
      go_ret
      exact ⟨rfl, hB6⟩
    have SP := Lib.hid (show p.Sound from hr rfl)
    clear hr y0 y1 y2 y3 yf
    have HG6 := Lib.hid ((hb6.block g hg5).trans HG5.out)
    have HX6 := Lib.hid ((hb6.block W.heap.size hz5).trans HX5.out)
    have X6 := Lib.hid (X5.out.below hb6)
    have H6 := Lib.hid (H0.out.below hB6)
    have U6 := Lib.hid (HU.out.below hB6)
    have hg6 : g < w6.heap.size := Nat.lt_of_lt_of_le hg5 hb6.size
    have hz6 : W.heap.size < w6.heap.size := Nat.lt_of_lt_of_le hz5 hb6.size
    clear hb6 hzc hz5 hg5 hz1 hz2 hglt hgz HB3 X X5 HG HG5 HX5 HXc HX2 HX1 HX0 H2
    obtain ⟨y0, y1, y2, y3, yf⟩ : w6.cell? ⟨g, 0, none⟩ = some (.int .i64 p.k) ∧ w6.cell? ⟨g, 1, none⟩ = some (.int .i64 p.bl) ∧ w6.cell? ⟨g, 2, none⟩ = some (.int .i64 p.ind) ∧ w6.cell? ⟨g, 3, none⟩ = some (.slice ua p.ss.length ucap) ∧ ∀ j, w6.frozen? ⟨g, j, none⟩ = false :=
      ⟨cell_of_row _ _ 0 _ _ _ HG6.out, cell_of_row _ _ 1 _ _ _ HG6.out, cell_of_row _ _ 2 _ _ _ HG6.out, cell_of_row _ _ 3 _ _ _ HG6.out, fun j => unfrozen_of_block HG6.out j⟩
    obtain ⟨x0, x1, x2, x3, xf⟩ := box4 HX6.out
    have n0 : (l0.length : Int) ≤ 1000 := by have := G0.out.len; omega
    have LA := appendP_len' l0 p
    have hmj : ((appendP l0 p).length : Int) ≤ 2147483647 := by omega
    clear LA
    have SK := Lib.hid (sound_kind SP.out)
    have SB := Lib.hid (sound_bl SP.out)
    have SL : p.ss.length ≤ 1000000 := Nat.le_trans SP.out.2.2.1 (by omega)
    have GS : ∀ q ∈ l0, q.ss.length ≤ 1000000 := G0.out.short.le (by omega)
    have GS' := Lib.hid GS; clear GS
    have GB := Lib.hid G0.out.bl
    have SA := Lib.hid ((G0.out.short.appendP SP.out.2.2.1).int (by omega))
    go_wp2_with fail
    go_region_held3 (Stay w6) (first | (with_reducible assumption) | (exact stay_start _) | (exact stay_step (by assumption) (by assumption)))
      ((first
        | (go_at_call 25; with_reducible (refine (implAppend (p := p) (H6.out.below (And.left ‹Stay w6 _›)) (U6.out.below (And.left ‹Stay w6 _›)) n0 SK.out SB.out GB.out SL GS'.out).mono ?_); rintro e w7 ⟨⟨z7, rfl, hz7⟩, hb7⟩; obtain ⟨az7, cz7, rfl⟩ := hz7.form; have Z7 := Lib.hid hz7; clear hz7)
        | (go_at_call 21; with_reducible (refine (lawsPieces_pcs (ps := appendP l0 p) (by first | exact Z7.out | exact Z7.out.below hb9) hmj).mono ?_); rintro e w8 ⟨⟨z8, rfl, hz8⟩, hb8⟩; obtain ⟨az8, cz8, rfl⟩ := hz8.pcs.form; have Z8 := Lib.hid hz8.pcs; clear hz8)
        | (go_at_call 26; with_reducible (refine (append_pcs (p := p) (X6.out.below (And.left ‹Stay w6 _›)) (U6.out.below (And.left ‹Stay w6 _›)) (by omega) SK.out SB.out GB.out).mono ?_); rintro e w9 ⟨⟨z9, rfl, hz9⟩, hb9⟩; obtain ⟨az9, cz9, rfl⟩ := hz9.form; have Z9 := Lib.hid hz9; clear hz9)
        | (go_at_call 24; with_reducible (refine (samePieces_pcs (ps := appendP l0 p) (by first | exact Z8.out | exact Z8.out.below hb9) (by first | exact Z9.out | exact Z9.out.below hb8 | exact (Z9.out.below hb7).below hb8) hmj SA.out).mono ?_); rintro e w10 ⟨rfl, hb10⟩)))
    all_goals
      have hB10 := hB6.trans ((And.left ‹Stay w6 _›).mono hB6.size)
      go_wp2
      go_ret
      exact ⟨rfl, hB10⟩
end Go.Proofs.YthlnciihabhmaaaFmt
