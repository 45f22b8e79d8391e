/-
  impl.element: its comment's row may be written. Conditions: the comment's length.
-/
import Derived.Test.YthlnciihabhmaaaElem
namespace Go.Proofs.Ythlnciihabhmaaa
open Go.ChangeShapes Go.WideShapes Go.ChangeAt Go.RowKit Go.Joins

theorem own_frozen {w : World} {base g n cap m k : Nat} {t : TypeId} {xs : List Value} (h : w.ownsRow base t k (.slice (some ⟨g, 0, none⟩) n cap) m xs) : ∀ j, w.frozen? ⟨g, j, none⟩ = false := by
  rcases h.2 with ⟨h, _⟩ | ⟨g', c', cur, h, _, hh, _⟩
  · cases h
  · injection h with h1 _ _
    injection h1 with h1
    injection h1 with h1 _ _
    subst h1
    exact fun j => unfrozen_of_block hh j
theorem element_own (k bl ind : Int) (ss : List ByteArray) (b off cap : Nat) (w : World) (hn : 0 < ss.length) (hm : ss.length ≤ 1000000) (hlt : b < w.heap.size) (hc : TextsAt w b off ss) :
    Calls Try.prog 30 #[.agg #[.int .i64 k, .int .i64 bl, .int .i64 ind, .slice (some ⟨b, off, none⟩) ss.length cap]] w fun e w' =>
      (∃ g cap', e = .returned (.agg #[.slice (some ⟨g, 0, none⟩) ss.length cap', .int .i64 k, .int .i64 bl, .int .i64 ind]) ∧ w.heap.size ≤ g ∧ g < w'.heap.size ∧ TextsAt w' g 0 ss ∧ ∀ j, w'.frozen? ⟨g, j, none⟩ = false) ∧ Below w.heap.size w w' := by
  have hB : Below w.heap.size w (((w.alloc (.cells #[.int .i64 k, .int .i64 bl, .int .i64 ind, .slice (some ⟨b, off, none⟩) ss.length cap] 29)).alloc (.cells #[.slice none 0 0, .int .i64 0, .int .i64 0, .int .i64 0] 58)).alloc (.cells #[] 9)).drew := (below_alloc3 _ _ _ _).drew
  have hnews := texts_news (w := (((w.alloc (.cells #[.int .i64 k, .int .i64 bl, .int .i64 ind, .slice (some ⟨b, off, none⟩) ss.length cap] 29)).alloc (.cells #[.slice none 0 0, .int .i64 0, .int .i64 0, .int .i64 0] 58)).alloc (.cells #[] 9)).drew) (b := b) (off := off) (ss := ss) fun i s h => ((bcell hB).1 b (off + i) hlt).trans (hc i s h)
  have hN := Lib.hid hnews
  clear hnews hc
  have hown : ((((w.alloc (.cells #[.int .i64 k, .int .i64 bl, .int .i64 ind, .slice (some ⟨b, off, none⟩) ss.length cap] 29)).alloc (.cells #[.slice none 0 0, .int .i64 0, .int .i64 0, .int .i64 0] 58)).alloc (.cells #[] 9)).drew).ownsRow w.heap.size 9 1 (.slice (some ⟨w.heap.size + 1 + 1, 0, none⟩) 0 0) 0 [] :=
    ⟨rfl, .inr ⟨w.heap.size + 1 + 1, 0, #[], rfl, by omega, heap_alloc_new' ((w.alloc (.cells #[.int .i64 k, .int .i64 bl, .int .i64 ind, .slice (some ⟨b, off, none⟩) ss.length cap] 29)).alloc (.cells #[.slice none 0 0, .int .i64 0, .int .i64 0, .int .i64 0] 58)) _ _ (by simp), by omega, by unfold maxLen; omega, rfl, rfl⟩⟩
  have hO := Lib.hid hown
  clear hown
  have hbb : Below (w.alloc (.cells #[.int .i64 k, .int .i64 bl, .int .i64 ind, .slice (some ⟨b, off, none⟩) ss.length cap] 29)).heap.size (w.alloc (.cells #[.int .i64 k, .int .i64 bl, .int .i64 ind, .slice (some ⟨b, off, none⟩) ss.length cap] 29)) (((w.alloc (.cells #[.int .i64 k, .int .i64 bl, .int .i64 ind, .slice (some ⟨b, off, none⟩) ss.length cap] 29)).alloc (.cells #[.slice none 0 0, .int .i64 0, .int .i64 0, .int .i64 0] 58)).alloc (.cells #[] 9)).drew := (below_alloc2 _ _ _).drew
  have hBB := Lib.hid hbb
  clear hbb
  have hR : HasRow (w.heap.size + 1) 4 (((w.alloc (.cells #[.int .i64 k, .int .i64 bl, .int .i64 ind, .slice (some ⟨b, off, none⟩) ss.length cap] 29)).alloc (.cells #[.slice none 0 0, .int .i64 0, .int .i64 0, .int .i64 0] 58)).alloc (.cells #[] 9)).drew := hasRow_drew (hasRow_alloc (by have := hasRow_new (w.alloc (.cells #[.int .i64 k, .int .i64 bl, .int .i64 ind, .slice (some ⟨b, off, none⟩) ss.length cap] 29)) #[.slice none 0 0, .int .i64 0, .int .i64 0, .int .i64 0] 58 4 rfl; simpa using this) (by simp) _)
  have hR1 := Lib.hid hR
  clear hR
  obtain ⟨i0, hi0, hz0, hs0, hb0⟩ := infoStr
  have S0 := stayRow_new (w.alloc (.cells #[.int .i64 k, .int .i64 bl, .int .i64 ind, .slice (some ⟨b, off, none⟩) ss.length cap] 29)) #[.slice none 0 0, .int .i64 0, .int .i64 0, .int .i64 0] 58 (w.heap.size + 1) 4 (by simp) rfl
  have HS0 := Lib.hid S0; clear S0
  have S1 := stayRow_base (w.alloc (.cells #[.int .i64 k, .int .i64 bl, .int .i64 ind, .slice (some ⟨b, off, none⟩) ss.length cap] 29)) #[.slice none 0 0, .int .i64 0, .int .i64 0, .int .i64 0] 58 (w.heap.size + 1) 4 (by simp) rfl
  have HS1 := Lib.hid S1; clear S1
  go_enter Try.func30, Try.ntmps30
  go_wp2
  go_region_held_law (StayRow (w.alloc (.cells #[.int .i64 k, .int .i64 bl, .int .i64 ind, .slice (some ⟨b, off, none⟩) ss.length cap] 29)) (w.heap.size + 1) 4)
    (first | (with_reducible assumption) | (exact HS0.out) | (exact HS1.out) | ((with_reducible refine stayRow_set ?_ (by simp) _); (repeat (with_reducible refine stayRow_set ?_ (by simp) _)); with_reducible assumption) | (with_reducible exact stayRow_alloc (by assumption) (by decide) _) | (exact stayRow_drew (stayRow_alloc HS1.out (by decide) _)))
    ((refine step_append_lies _ rfl (.tmp 9) (.tmp 11) 27 rfl w.heap.size 9 i0 (.string ByteArray.empty) 1 16 Try.underlying27 hi0 hz0 hs0 hb0 rfl (by omega) (.slice (some ⟨w.heap.size + 1 + 1, 0, none⟩) 0 0) 0 [] (by simp [Act.eval]) hO.out ⟨b, off, none⟩ ss.length cap (strV ss) (by simp [Act.eval]) (by simp) hN.out (by simp [Value.oneCell']) hn (by unfold maxLen; omega) (by omega) (by simp; omega) _ rfl ?_; intro g cap1 w1 hown1 hgrow1 hat1 hlt1; have hR2 := hasRow_block hR1.out (hgrow1.block (w.heap.size + 1) (by simp) (by simp [Value.ownBlock])); have hSw : StayRow (w.alloc (.cells #[.int .i64 k, .int .i64 bl, .int .i64 ind, .slice (some ⟨b, off, none⟩) ss.length cap] 29)) (w.heap.size + 1) 4 w1 := ⟨stay_of (hBB.out.grown hgrow1 (by simp) (by intro k h; simp [Value.ownBlock] at h; simp; omega)), hR2⟩; clear hR2))
  have hg : g = w.heap.size + 2 ∨ g = w.heap.size + 3 := by rcases hat1 with h | h <;> simp [Value.ownBlock] at h <;> omega
  have hS : StayRow w (w.heap.size + 1) 4 w1 := ⟨stay_of (hB.grown hgrow1 (by simp; omega) (by intro k h; simp [Value.ownBlock] at h; omega)), hSw.2⟩
  have ht := texts_own (ss := ss) (by simpa using hown1)
  have hz := own_frozen hown1
  obtain ⟨r0, r1, r2, r3⟩ := row4 (stayRow_set (stayRow_set (stayRow_set (stayRow_set hS (by simp) (.slice (some ⟨g, 0, none⟩) ss.length cap1)) (by simp) (.int .i64 k)) (by simp) (.int .i64 bl)) (by simp) (.int .i64 ind))
  go_wp2
  refine bodyPost_ret (v := .agg #[.slice (some ⟨g, 0, none⟩) ss.length cap1, .int .i64 k, .int .i64 bl, .int .i64 ind]) (by simp [results, Try.results30, go_sem, r0, r1, r2, r3]) rfl ⟨⟨g, cap1, rfl, by omega, by simp; omega, ?_, ?_⟩, ?_⟩
  · intro i s hi
    have := ht i s hi
    rw [← this]
    simp [go_sem]
  · intro j
    have := hz j
    simp [go_sem, this]
  · exact (stayRow_set (stayRow_set (stayRow_set (stayRow_set hS (by simp) (.slice (some ⟨g, 0, none⟩) ss.length cap1)) (by simp) (.int .i64 k)) (by simp) (.int .i64 bl)) (by simp) (.int .i64 ind)).1.1
end Go.Proofs.Ythlnciihabhmaaa
