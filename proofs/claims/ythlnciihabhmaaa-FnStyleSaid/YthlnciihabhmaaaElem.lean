/-
  impl.element: a piece's copy: the same numbers, the same texts in a row of its own.
-/
import Derived.Test.YthlnciihabhmaaaPieces
import Derived.Deep.RegionHeldLaw
import Derived.Deep.AppendLies
import Derived.OwnWalk
import Derived.Deep.RegionLaw
import Derived.Deep.RegionLawGrows
namespace Go.Proofs.Ythlnciihabhmaaa
open Go.ChangeShapes Go.WideShapes Go.ChangeAt Go.RowKit Go.Joins

theorem element_nil (k bl ind : Int) (cap : Nat) (w : World) :
    Calls Try.prog 30 #[.agg #[.int .i64 k, .int .i64 bl, .int .i64 ind, .slice none 0 cap]] w fun e w' => (∃ a' cap', e = .returned (.agg #[.slice a' 0 cap', .int .i64 k, .int .i64 bl, .int .i64 ind])) ∧ Below w.heap.size w w' := by
  go_enter Try.func30, Try.ntmps30
  go_wp2
  go_region
  go_wp2
  exact bodyPost_ret (v := .agg #[.slice (some ⟨w.heap.size + 1 + 1, 0, none⟩) 0 0, .int .i64 k, .int .i64 bl, .int .i64 ind]) (by simp [results, Try.results30, go_sem]) rfl ⟨⟨_, _, rfl⟩, (below_alloc3 _ _ _ _).drew⟩
theorem element_emp (k bl ind : Int) (ad : Addr) (cap : Nat) (w : World) :
    Calls Try.prog 30 #[.agg #[.int .i64 k, .int .i64 bl, .int .i64 ind, .slice (some ad) 0 cap]] w fun e w' => (∃ a' cap', e = .returned (.agg #[.slice a' 0 cap', .int .i64 k, .int .i64 bl, .int .i64 ind])) ∧ Below w.heap.size w w' := by
  go_enter Try.func30, Try.ntmps30
  go_wp2
  go_region
  go_wp2
  exact bodyPost_ret (v := .agg #[.slice (some ⟨w.heap.size + 1 + 1, 0, none⟩) 0 0, .int .i64 k, .int .i64 bl, .int .i64 ind]) (by simp [results, Try.results30, go_sem]) rfl ⟨⟨_, _, rfl⟩, (below_alloc3 _ _ _ _).drew⟩

/-- Texts that are cells. -/
abbrev strV (ss : List ByteArray) : List Value := ss.map Value.string
theorem texts_news {w : World} {b off : Nat} {ss : List ByteArray} (hc : TextsAt w b off ss) : ∀ j u, (strV ss)[j]? = some u → w.cell? ((⟨b, off, none⟩ : Addr).add j) = some u := fun j u hu => by
  rw [List.getElem?_map] at hu
  obtain ⟨s, hs, rfl⟩ := Option.map_eq_some_iff.1 hu
  have hadd : (⟨b, off, none⟩ : Addr).add j = ⟨b, off + j, none⟩ := by unfold Addr.add; split <;> simp_all
  rw [hadd]
  exact hc j s hs

theorem infoStr : ∃ i, Try.prog.info? 9 = some i ∧ i.zero = some (.string ByteArray.empty) ∧ i.size = 1 ∧ i.bytes = 16 := by
  have h : ((Try.prog.info? 9).map fun i => (i.size, i.bytes)) = some (1, 16) := by kernel_rfl
  have hz : (Try.prog.info? 9).bind (fun i => i.zero) = some (.string ByteArray.empty) := by kernel_rfl
  cases e : Try.prog.info? 9 with
  | none => rw [e] at h; cases h
  | some i =>
    rw [e] at h hz
    have h' := Prod.mk.inj (Option.some.inj h)
    exact ⟨i, rfl, hz, h'.1, h'.2⟩
theorem texts_own {w : World} {base g cap : Nat} {t : TypeId} {ss : List ByteArray} {n : Nat} (h : w.ownsRow base t 1 (.slice (some ⟨g, 0, none⟩) n cap) n (strV ss)) : TextsAt w g 0 ss := fun i s hi => by
  have := h.cells (g := g) rfl i (.string s) (by simp [strV, hi])
  have hadd : (⟨g, 0, none⟩ : Addr).add i = ⟨g, 0 + i, none⟩ := by unfold Addr.add; split <;> simp_all
  rwa [hadd] at this

theorem heap_alloc_new' (w : World) (o : Obj) (g : Nat) (hg : g = w.heap.size) : (w.alloc o).drew.heap[g]? = some o := by
  subst hg
  exact heap_alloc_new w o

theorem element_row (k bl ind : Int) (ss : List ByteArray) (b off cap : Nat) (w : World) (hn : 0 < ss.length) (hm : ss.length ≤ 1000000) (hlt : b < w.heap.size) (hc : TextsAt w b off ss) :
    Calls Try.prog 30 #[.agg #[.int .i64 k, .int .i64 bl, .int .i64 ind, .slice (some ⟨b, off, none⟩) ss.length cap]] w fun e w' =>
      (∃ g cap', e = .returned (.agg #[.slice (some ⟨g, 0, none⟩) ss.length cap', .int .i64 k, .int .i64 bl, .int .i64 ind]) ∧ w.heap.size ≤ g ∧ g < w'.heap.size ∧ TextsAt w' g 0 ss) ∧ Below w.heap.size w w' := by
  have hB : Below w.heap.size w (((w.alloc (.cells #[.int .i64 k, .int .i64 bl, .int .i64 ind, .slice (some ⟨b, off, none⟩) ss.length cap] 29)).alloc (.cells #[.slice none 0 0, .int .i64 0, .int .i64 0, .int .i64 0] 58)).alloc (.cells #[] 9)).drew := (below_alloc3 _ _ _ _).drew
  have hnews := texts_news (w := (((w.alloc (.cells #[.int .i64 k, .int .i64 bl, .int .i64 ind, .slice (some ⟨b, off, none⟩) ss.length cap] 29)).alloc (.cells #[.slice none 0 0, .int .i64 0, .int .i64 0, .int .i64 0] 58)).alloc (.cells #[] 9)).drew) (b := b) (off := off) (ss := ss) fun i s h => ((bcell hB).1 b (off + i) hlt).trans (hc i s h)
  have hN := Lib.hid hnews
  clear hnews hc
  have hown : ((((w.alloc (.cells #[.int .i64 k, .int .i64 bl, .int .i64 ind, .slice (some ⟨b, off, none⟩) ss.length cap] 29)).alloc (.cells #[.slice none 0 0, .int .i64 0, .int .i64 0, .int .i64 0] 58)).alloc (.cells #[] 9)).drew).ownsRow w.heap.size 9 1 (.slice (some ⟨w.heap.size + 1 + 1, 0, none⟩) 0 0) 0 [] :=
    ⟨rfl, .inr ⟨w.heap.size + 1 + 1, 0, #[], rfl, by omega, heap_alloc_new' ((w.alloc (.cells #[.int .i64 k, .int .i64 bl, .int .i64 ind, .slice (some ⟨b, off, none⟩) ss.length cap] 29)).alloc (.cells #[.slice none 0 0, .int .i64 0, .int .i64 0, .int .i64 0] 58)) _ _ (by simp), by omega, by unfold maxLen; omega, rfl, rfl⟩⟩
  have hO := Lib.hid hown
  clear hown
  have hbb : Below (w.alloc (.cells #[.int .i64 k, .int .i64 bl, .int .i64 ind, .slice (some ⟨b, off, none⟩) ss.length cap] 29)).heap.size (w.alloc (.cells #[.int .i64 k, .int .i64 bl, .int .i64 ind, .slice (some ⟨b, off, none⟩) ss.length cap] 29)) (((w.alloc (.cells #[.int .i64 k, .int .i64 bl, .int .i64 ind, .slice (some ⟨b, off, none⟩) ss.length cap] 29)).alloc (.cells #[.slice none 0 0, .int .i64 0, .int .i64 0, .int .i64 0] 58)).alloc (.cells #[] 9)).drew := (below_alloc2 _ _ _).drew
  have hBB := Lib.hid hbb
  clear hbb
  have hR : HasRow (w.heap.size + 1) 4 (((w.alloc (.cells #[.int .i64 k, .int .i64 bl, .int .i64 ind, .slice (some ⟨b, off, none⟩) ss.length cap] 29)).alloc (.cells #[.slice none 0 0, .int .i64 0, .int .i64 0, .int .i64 0] 58)).alloc (.cells #[] 9)).drew := hasRow_drew (hasRow_alloc (by have := hasRow_new (w.alloc (.cells #[.int .i64 k, .int .i64 bl, .int .i64 ind, .slice (some ⟨b, off, none⟩) ss.length cap] 29)) #[.slice none 0 0, .int .i64 0, .int .i64 0, .int .i64 0] 58 4 rfl; simpa using this) (by simp) _)
  have hR1 := Lib.hid hR
  clear hR
  obtain ⟨i0, hi0, hz0, hs0, hb0⟩ := infoStr
  have S0 := stayRow_new (w.alloc (.cells #[.int .i64 k, .int .i64 bl, .int .i64 ind, .slice (some ⟨b, off, none⟩) ss.length cap] 29)) #[.slice none 0 0, .int .i64 0, .int .i64 0, .int .i64 0] 58 (w.heap.size + 1) 4 (by simp) rfl
  have HS0 := Lib.hid S0; clear S0
  have S1 := stayRow_base (w.alloc (.cells #[.int .i64 k, .int .i64 bl, .int .i64 ind, .slice (some ⟨b, off, none⟩) ss.length cap] 29)) #[.slice none 0 0, .int .i64 0, .int .i64 0, .int .i64 0] 58 (w.heap.size + 1) 4 (by simp) rfl
  have HS1 := Lib.hid S1; clear S1
  go_enter Try.func30, Try.ntmps30
  go_wp2
  go_region_held_law (StayRow (w.alloc (.cells #[.int .i64 k, .int .i64 bl, .int .i64 ind, .slice (some ⟨b, off, none⟩) ss.length cap] 29)) (w.heap.size + 1) 4)
    (first | (with_reducible assumption) | (exact HS0.out) | (exact HS1.out) | ((with_reducible refine stayRow_set ?_ (by simp) _); (repeat (with_reducible refine stayRow_set ?_ (by simp) _)); with_reducible assumption) | (with_reducible exact stayRow_alloc (by assumption) (by decide) _) | (exact stayRow_drew (stayRow_alloc HS1.out (by decide) _)))
    ((refine step_append_lies _ rfl (.tmp 9) (.tmp 11) 27 rfl w.heap.size 9 i0 (.string ByteArray.empty) 1 16 Try.underlying27 hi0 hz0 hs0 hb0 rfl (by omega) (.slice (some ⟨w.heap.size + 1 + 1, 0, none⟩) 0 0) 0 [] (by simp [Act.eval]) hO.out ⟨b, off, none⟩ ss.length cap (strV ss) (by simp [Act.eval]) (by simp) hN.out (by simp [Value.oneCell']) hn (by unfold maxLen; omega) (by omega) (by simp; omega) _ rfl ?_; intro g cap1 w1 hown1 hgrow1 hat1 hlt1; have hR2 := hasRow_block hR1.out (hgrow1.block (w.heap.size + 1) (by simp) (by simp [Value.ownBlock])); have hSw : StayRow (w.alloc (.cells #[.int .i64 k, .int .i64 bl, .int .i64 ind, .slice (some ⟨b, off, none⟩) ss.length cap] 29)) (w.heap.size + 1) 4 w1 := ⟨stay_of (hBB.out.grown hgrow1 (by simp) (by intro k h; simp [Value.ownBlock] at h; simp; omega)), hR2⟩; clear hR2))
  have hg : g = w.heap.size + 2 ∨ g = w.heap.size + 3 := by rcases hat1 with h | h <;> simp [Value.ownBlock] at h <;> omega
  have hS : StayRow w (w.heap.size + 1) 4 w1 := ⟨stay_of (hB.grown hgrow1 (by simp; omega) (by intro k h; simp [Value.ownBlock] at h; omega)), hSw.2⟩
  have ht := texts_own (ss := ss) (by simpa using hown1)
  obtain ⟨r0, r1, r2, r3⟩ := row4 (stayRow_set (stayRow_set (stayRow_set (stayRow_set hS (by simp) (.slice (some ⟨g, 0, none⟩) ss.length cap1)) (by simp) (.int .i64 k)) (by simp) (.int .i64 bl)) (by simp) (.int .i64 ind))
  go_wp2
  refine bodyPost_ret (v := .agg #[.slice (some ⟨g, 0, none⟩) ss.length cap1, .int .i64 k, .int .i64 bl, .int .i64 ind]) (by simp [results, Try.results30, go_sem, r0, r1, r2, r3]) rfl ⟨⟨g, cap1, rfl, by omega, by simp; omega, ?_⟩, ?_⟩
  · intro i s hi
    have := ht i s hi
    rw [← this]
    simp [go_sem]
  · exact (stayRow_set (stayRow_set (stayRow_set (stayRow_set hS (by simp) (.slice (some ⟨g, 0, none⟩) ss.length cap1)) (by simp) (.int .i64 k)) (by simp) (.int .i64 bl)) (by simp) (.int .i64 ind)).1.1

/-- A list of texts, whichever way it lies. -/
def Comm (w : World) (v : Value) (ss : List ByteArray) : Prop :=
  (ss = [] ∧ ∃ a cap, v = .slice a 0 cap) ∨ (0 < ss.length ∧ ∃ b off cap, v = .slice (some ⟨b, off, none⟩) ss.length cap ∧ b < w.heap.size ∧ TextsAt w b off ss)
theorem Comm.below {w w' : World} {v : Value} {ss : List ByteArray} (h : Comm w v ss) (hb : Below w.heap.size w w') : Comm w' v ss := by
  rcases h with h | ⟨h0, b, off, cap, e, hlt, hc⟩
  · exact .inl h
  · exact .inr ⟨h0, b, off, cap, e, Nat.lt_of_lt_of_le hlt hb.size, fun i s hi => ((bcell hb).1 b (off + i) hlt).trans (hc i s hi)⟩
theorem Comm.form {w : World} {v : Value} {ss : List ByteArray} (h : Comm w v ss) : ∃ a cap, v = .slice a ss.length cap := by
  rcases h with ⟨rfl, a, cap, e⟩ | ⟨_, b, off, cap, e, _⟩
  · exact ⟨a, cap, e⟩
  · exact ⟨_, cap, e⟩
theorem fits2_comm {w : World} {v : Value} {ss : List ByteArray} (k bl ind : Int) (h : Comm w v ss) (hm : (ss.length : Int) ≤ 9223372036854775807) :
    Calls Try.prog 13 #[.agg #[.int .i64 k, .int .i64 bl, .int .i64 ind, v]] w fun e w' => IsBool e ∧ Below w.heap.size w w' := by
  rcases h with ⟨rfl, a, cap, rfl⟩ | ⟨_, b, off, cap, rfl, hlt, hc⟩
  · exact fits2_none k bl ind a cap w
  · exact fits2_row k bl ind ss b off cap w hm hlt hc
theorem sound_comm {w : World} {v : Value} {ss : List ByteArray} (k bl ind : Int) (h : Comm w v ss) (hm : (ss.length : Int) ≤ 9223372036854775807) :
    Calls Try.prog 15 #[.agg #[.int .i64 k, .int .i64 bl, .int .i64 ind, v]] w fun e w' => IfSound k bl ind ss e ∧ Below w.heap.size w w' := by
  rcases h with ⟨rfl, a, cap, rfl⟩ | ⟨_, b, off, cap, rfl, hlt, hc⟩
  · exact sound_none k bl ind a cap w
  · exact sound_row k bl ind ss b off cap w hm hlt hc
theorem piece_comm {w : World} {v : Value} {ss : List ByteArray} (k bl ind : Int) (h : Comm w v ss) :
    Calls Try.prog 14 #[.agg #[.int .i64 k, .int .i64 bl, .int .i64 ind, v]] w fun e w' => e = .returned (.agg #[.int .i64 k, .int .i64 bl, .int .i64 ind, v]) ∧ Below w.heap.size w w' := by
  obtain ⟨a, cap, rfl⟩ := h.form
  exact piece_any k bl ind a _ cap w
theorem element_comm {w : World} {v : Value} {ss : List ByteArray} (k bl ind : Int) (h : Comm w v ss) (hm : ss.length ≤ 1000000) :
    Calls Try.prog 30 #[.agg #[.int .i64 k, .int .i64 bl, .int .i64 ind, v]] w fun e w' => (∃ v', e = .returned (.agg #[v', .int .i64 k, .int .i64 bl, .int .i64 ind]) ∧ Comm w' v' ss) ∧ Below w.heap.size w w' := by
  rcases h with ⟨rfl, a, cap, rfl⟩ | ⟨h0, b, off, cap, rfl, hlt, hc⟩
  · rcases a with _ | ad
    · exact (element_nil k bl ind cap w).mono fun e w' ⟨⟨a', c', he⟩, hb⟩ => ⟨⟨_, he, .inl ⟨rfl, _, _, rfl⟩⟩, hb⟩
    · exact (element_emp k bl ind ad cap w).mono fun e w' ⟨⟨a', c', he⟩, hb⟩ => ⟨⟨_, he, .inl ⟨rfl, _, _, rfl⟩⟩, hb⟩
  · exact (element_row k bl ind ss b off cap w h0 hm hlt hc).mono fun e w' ⟨⟨g, c', he, h1, h2, h3⟩, hb⟩ => ⟨⟨_, he, .inr ⟨h0, g, 0, c', rfl, h2, h3⟩⟩, hb⟩

set_option maxRecDepth 100000 in
/-- A list of texts that came in. -/
theorem comm_of_trod {H : Type} {enc : TypeId × Value → H} {W : World} {base : Nat} {sp : Nat → Bool} {held : Bool} {fuel : Nat} {v : Value} {x : DataW H × List MemPlace}
    (h : DataW.trod enc Try.prog W base sp held fuel 27 [v] = some x) : ∃ ss : List ByteArray, Comm W v ss ∧ (ss.length : Int) ≤ 9223372036854775807 := by
  rcases open_strings Try.underlying27 Try.underlying9 (by kernel_rfl) h with ⟨e, _⟩ | ⟨a, len, cap, ss, e, _, hlc, hcm, hsl, _, hcell, _⟩
  · exact ⟨[], .inl ⟨rfl, none, 0, by simpa using e⟩, by simp⟩
  · have ev : v = .slice (some a) len cap := by simpa using e
    subst ev
    have hlen : len ≤ ss.length := by rw [hsl]; split <;> omega
    rcases Nat.eq_zero_or_pos len with h0 | h0
    · subst h0
      exact ⟨[], .inl ⟨rfl, _, _, rfl⟩, by simp⟩
    · obtain ⟨b, off, spot⟩ := a
      have h1 := hcell 0 (by omega)
      have hspot : spot = none := by simpa [Addr.add] using World.cell?_spot h1
      subst hspot
      have hlt : b < W.heap.size := World.block_lt_of_cell? W ⟨b, off, none⟩ (by simpa [Addr.add] using h1)
      have hl' : (ss.take len).length = len := by simp; omega
      refine ⟨ss.take len, .inr ⟨by omega, b, off, cap, by rw [hl'], hlt, fun i s hi => ?_⟩, by rw [hl']; unfold maxLen at hcm; omega⟩
      have hi' : i < len := by have := (List.getElem?_eq_some_iff.1 hi).1; omega
      have := hcell i (by omega)
      have hadd : (⟨b, off, none⟩ : Addr).add i = ⟨b, off + i, none⟩ := by unfold Addr.add; split <;> simp_all
      rw [hadd] at this
      rw [this, List.getD, ← (List.getElem?_take_of_lt hi' : (ss.take len)[i]? = ss[i]?), hi]
      rfl
set_option maxRecDepth 100000 in
theorem open_piece {H : Type} {enc : TypeId × Value → H} {W : World} {base : Nat} {v : Value} {d : DataW H} {ps : List MemPlace}
    (hv : Value.okWide Try.prog W .any base 29 v) (h : DataW.Trod enc Try.prog W 0 (fun _ => true) true 29 v d ps) :
    ∃ (k bl ind : Int) (u : Value) (ss : List ByteArray), v = .agg #[.int .i64 k, .int .i64 bl, .int .i64 ind, u] ∧ Comm W u ss ∧ (ss.length : Int) ≤ 9223372036854775807 := by
  obtain ⟨cs, rfl, hsz⟩ := okWide_struct Try.underlying29 hv
  obtain ⟨c0, c1, c2, c3, rfl⟩ := array4 (hsz.trans (by kernel_rfl))
  obtain ⟨fuel, hf⟩ := h
  obtain ⟨y0, y1, y2, y3, n, hx, _, k0, k1, k2, k3⟩ := trod_struct4 Try.underlying29 hf
  have one : Try.prog.cellsOf 3 = 1 := by kernel_rfl
  have ones : Try.prog.cellsOf 27 = 1 := by kernel_rfl
  simp [Value.cells, one, ones] at k0 k1 k2 k3
  obtain ⟨a, e0, _, _⟩ := DataW.trod_int Try.underlying3 k0
  obtain ⟨b, e1, _, _⟩ := DataW.trod_int Try.underlying3 k1
  obtain ⟨c, e2, _, _⟩ := DataW.trod_int Try.underlying3 k2
  simp at e0 e1 e2
  subst e0 e1 e2
  obtain ⟨ss, h1, h2⟩ := comm_of_trod k3
  exact ⟨a, b, c, c3, ss, rfl, h1, h2⟩
end Go.Proofs.Ythlnciihabhmaaa
