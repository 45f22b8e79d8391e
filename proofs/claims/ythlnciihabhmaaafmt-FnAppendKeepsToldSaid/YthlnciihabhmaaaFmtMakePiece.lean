/-
  FnMakePiece: a sound piece is made as it is told.
-/
import Derived.Test.YthlnciihabhmaaaFmtSame
import Derived.Test.YthlnciihabhmaaaFmtPieceNewlines
import Derived.Test.YthlnciihabhmaaaFmtPc
namespace Go.Proofs.YthlnciihabhmaaaFmt
open Go.ChangeShapes Go.WideShapes Go.ChangeAt Go.RowKit Go.Joins

/-- A sound piece's kind, beside its numbers. -/
abbrev KindP (k bl ind : Int) (n : Nat) : Prop := (k = 0 ∧ n < 2) ∨ (k = 1 ∧ n = 1 ∧ bl = 0 ∧ ind = 0) ∨ (k = 2 ∧ 0 < n)
theorem make_any (k bl ind : Int) (a : Option Addr) (n cap : Nat) (w : World) (hk : KindP k bl ind n) (hn : n ≤ 1000000) :
    Calls Tryf.prog 39 #[.int .i64 k, .int .i64 bl, .int .i64 ind, .slice a n cap] w fun e w' => e = .returned (.agg #[.slice a n cap, .int .i64 k, .int .i64 bl, .int .i64 ind]) ∧ Below w.heap.size w w' := by
  rcases hk with ⟨rfl, hn0⟩ | ⟨rfl, rfl, rfl, rfl⟩ | ⟨rfl, hn0⟩
  · go_enter Tryf.func39, Tryf.ntmps39
    go_wp2
    exact bodyPost_ret (v := .agg #[.slice a n cap, .int .i64 0, .int .i64 bl, .int .i64 ind]) (by simp [results, Tryf.results39, go_sem]) rfl ⟨rfl, below_alloc1 _ _⟩
  · go_enter Tryf.func39, Tryf.ntmps39
    go_wp2
    exact bodyPost_ret (v := .agg #[.slice a 1 cap, .int .i64 1, .int .i64 0, .int .i64 0]) (by simp [results, Tryf.results39, go_sem]) rfl ⟨rfl, below_alloc1 _ _⟩
  · have h0 : (n == 0) = false := by simp; omega
    have h1 : ((n : Int) == 0) = false := by simp; omega
    go_enter Tryf.func39, Tryf.ntmps39
    go_wp2
    exact bodyPost_ret (v := .agg #[.slice a n cap, .int .i64 2, .int .i64 bl, .int .i64 ind]) (by simp [results, Tryf.results39, go_sem]) rfl ⟨rfl, below_alloc1 _ _⟩
theorem implPiece_any (k bl ind : Int) (a : Option Addr) (n cap : Nat) (w : World) :
    Calls Tryf.prog 38 #[.agg #[.slice a n cap, .int .i64 k, .int .i64 bl, .int .i64 ind]] w fun e w' => e = .returned (.agg #[.int .i64 k, .int .i64 bl, .int .i64 ind, .slice a n cap]) ∧ Below w.heap.size w w' := by
  go_enter Tryf.func38, Tryf.ntmps38
  go_wp2
  exact bodyPost_ret (v := .agg #[.int .i64 k, .int .i64 bl, .int .i64 ind, .slice a n cap]) (by simp [results, Tryf.results38, go_sem]) rfl ⟨rfl, below_alloc2 _ _ _⟩
theorem implPiece_comm {w : World} {v : Value} {ss : List ByteArray} (k bl ind : Int) (h : Comm w v ss) :
    Calls Tryf.prog 38 #[.agg #[v, .int .i64 k, .int .i64 bl, .int .i64 ind]] w fun e w' => e = .returned (.agg #[.int .i64 k, .int .i64 bl, .int .i64 ind, v]) ∧ Below w.heap.size w w' := by
  obtain ⟨a, cap, rfl⟩ := h.form
  exact implPiece_any k bl ind a _ cap w

theorem implMake_emp (k bl ind : Int) (a : Option Addr) (cap : Nat) (w : World) (hk : KindP k bl ind 0) :
    Calls Tryf.prog 19 #[.int .i64 k, .int .i64 bl, .int .i64 ind, .slice a 0 cap] w fun e w' => (∃ v', e = .returned (.agg #[.int .i64 k, .int .i64 bl, .int .i64 ind, v']) ∧ Comm w' v' []) ∧ Below w.heap.size w w' := by
  have hB := below_alloc2 w (.cells #[.int .i64 0, .int .i64 0, .int .i64 0, .slice none 0 0] 24) (.cells #[] 9)
  have S0 := stayRow_alloc (stayRow_base w #[.int .i64 0, .int .i64 0, .int .i64 0, .slice none 0 0] 24 w.heap.size 4 rfl rfl) (by decide) (.cells #[] 9)
  rcases a with _ | ad
  all_goals
    go_enter Tryf.func19, Tryf.ntmps19
    go_wp2_with fail
    go_at_call 39
    refine (make_any k bl ind _ 0 0 _ hk (by omega)).mono ?_
    rintro e w1 ⟨rfl, hb1⟩
    go_wp2_with fail
    go_at_call 38
    refine (implPiece_any k bl ind _ 0 0 _).mono ?_
    rintro e w2 ⟨rfl, hb2⟩
    have hS := stayRow_step (stayRow_step S0 hb1 (by decide)) hb2 (by decide)
    have r0 := hS.2.1 0 (by decide)
    have r1 := hS.2.1 1 (by decide)
    have r2 := hS.2.1 2 (by decide)
    have r3 := hS.2.1 3 (by decide)
    have rf := hS.2.2
    go_wp2
    obtain ⟨q0, q1, q2, q3⟩ := row4 (stayRow_set (stayRow_set (stayRow_set (stayRow_set hS (by simp) (.int .i64 k)) (by simp) (.int .i64 bl)) (by simp) (.int .i64 ind)) (by simp) (.slice (some ⟨w.heap.size + 1, 0, none⟩) 0 0))
    refine bodyPost_ret (v := .agg #[.int .i64 k, .int .i64 bl, .int .i64 ind, .slice (some ⟨w.heap.size + 1, 0, none⟩) 0 0]) (by simp [results, Tryf.results19, go_sem, q0, q1, q2, q3]) rfl ⟨⟨_, rfl, .inl ⟨rfl, _, _, rfl⟩⟩, ?_⟩
    exact (stayRow_set (stayRow_set (stayRow_set (stayRow_set hS (by simp) (.int .i64 k)) (by simp) (.int .i64 bl)) (by simp) (.int .i64 ind)) (by simp) (.slice (some ⟨w.heap.size + 1, 0, none⟩) 0 0)).1.1

theorem heap_alloc_new2 (w : World) (o : Obj) (g : Nat) (hg : g = w.heap.size) : (w.alloc o).heap[g]? = some o := by
  subst hg
  exact heap_alloc_new w o
theorem implMake_row (k bl ind : Int) (ss : List ByteArray) (b off cap : Nat) (w : World) (hk : KindP k bl ind ss.length) (hn : 0 < ss.length) (hm : ss.length ≤ 1000000) (hlt : b < w.heap.size) (hc : TextsAt w b off ss) :
    Calls Tryf.prog 19 #[.int .i64 k, .int .i64 bl, .int .i64 ind, .slice (some ⟨b, off, none⟩) ss.length cap] w fun e w' => (∃ v', e = .returned (.agg #[.int .i64 k, .int .i64 bl, .int .i64 ind, v']) ∧ Comm w' v' ss) ∧ Below w.heap.size w w' := by
  have hB : Below w.heap.size w ((w.alloc (.cells #[.int .i64 0, .int .i64 0, .int .i64 0, .slice none 0 0] 24)).alloc (.cells #[] 9)) := below_alloc2 _ _ _
  have hnews := texts_news (w := ((w.alloc (.cells #[.int .i64 0, .int .i64 0, .int .i64 0, .slice none 0 0] 24)).alloc (.cells #[] 9))) (b := b) (off := off) (ss := ss) fun i s h => ((bcell hB).1 b (off + i) hlt).trans (hc i s h)
  have hN := Lib.hid hnews
  clear hnews hc
  have hown : (((w.alloc (.cells #[.int .i64 0, .int .i64 0, .int .i64 0, .slice none 0 0] 24)).alloc (.cells #[] 9))).ownsRow w.heap.size 9 1 (.slice (some ⟨w.heap.size + 1, 0, none⟩) 0 0) 0 [] :=
    ⟨rfl, .inr ⟨w.heap.size + 1, 0, #[], rfl, by omega, heap_alloc_new2 (w.alloc (.cells #[.int .i64 0, .int .i64 0, .int .i64 0, .slice none 0 0] 24)) _ _ (by simp), by omega, by unfold maxLen; omega, rfl, rfl⟩⟩
  have hO := Lib.hid hown
  clear hown
  have S0 := stayRow_alloc (stayRow_base w #[.int .i64 0, .int .i64 0, .int .i64 0, .slice none 0 0] 24 w.heap.size 4 rfl rfl) (by decide) (.cells #[] 9)
  obtain ⟨i0, hi0, hz0, hs0, hb0⟩ := infoStr
  go_enter Tryf.func19, Tryf.ntmps19
  go_wp2_with (at_builtin; refine wpList_append_lies _ rfl (.tmp 12) (.tmp 13) 22 rfl w.heap.size 9 i0 (.string ByteArray.empty) 1 16 Tryf.underlying22 hi0 hz0 hs0 hb0 rfl (by omega) (.slice (some ⟨w.heap.size + 1, 0, none⟩) 0 0) 0 [] rfl hO.out ⟨b, off, none⟩ ss.length cap (strV ss) rfl (by simp) hN.out (by simp [Value.oneCell']) hn (by unfold maxLen; omega) (by omega) (by simp; omega) _ rfl ?_; intro g cap1 w1 hown1 hgrow1 hat1 hlt1)
  rw [show 0 + ss.length = ss.length by omega] at *
  have hS1 : StayRow w w.heap.size 4 w1 := ⟨stay_of (hB.grown hgrow1 (by simp; omega) (by intro k h; simp [Value.ownBlock] at h; omega)), hasRow_block S0.2 (hgrow1.block w.heap.size (by simp; omega) (by simp [Value.ownBlock]))⟩
  have ht := texts_own (ss := ss) (by simpa using hown1)
  have hg : w.heap.size < g := by rcases hat1 with h | h <;> simp [Value.ownBlock] at h <;> omega
  have hC1 : Comm w1 (.slice (some ⟨g, 0, none⟩) ss.length cap1) ss := .inr ⟨hn, g, 0, cap1, rfl, hlt1, ht⟩
  go_at_call 39
  refine (make_any k bl ind _ ss.length cap1 _ hk hm).mono ?_
  rintro e w2 ⟨rfl, hb2⟩
  have hC2 := hC1.below hb2
  go_wp2_with fail
  go_at_call 38
  refine (implPiece_comm k bl ind hC2).mono ?_
  rintro e w3 ⟨rfl, hb3⟩
  have hC3 := hC2.below hb3
  have hS := stayRow_step (stayRow_step hS1 hb2 (by decide)) hb3 (by decide)
  have r0 := hS.2.1 0 (by decide)
  have r1 := hS.2.1 1 (by decide)
  have r2 := hS.2.1 2 (by decide)
  have r3 := hS.2.1 3 (by decide)
  have rf := hS.2.2
  go_wp2
  have hE := stayRow_set (p := ⟨w.heap.size, 3, none⟩) (stayRow_set (p := ⟨w.heap.size, 2, none⟩) (stayRow_set (p := ⟨w.heap.size, 1, none⟩) (stayRow_set (p := ⟨w.heap.size, 0, none⟩) hS (Nat.le_refl _) (.int .i64 k)) (Nat.le_refl _) (.int .i64 bl)) (Nat.le_refl _) (.int .i64 ind)) (Nat.le_refl _) (.slice (some ⟨g, 0, none⟩) ss.length cap1)
  obtain ⟨q0, q1, q2, q3⟩ := row4 hE
  refine bodyPost_ret (v := .agg #[.int .i64 k, .int .i64 bl, .int .i64 ind, .slice (some ⟨g, 0, none⟩) ss.length cap1]) (by simp [results, Tryf.results19, go_sem, q0, q1, q2, q3]) rfl ⟨⟨_, rfl, ?_⟩, hE.1.1⟩
  have hO : Only (fun b => b = w.heap.size) w3 ((((w3.setCell ⟨w.heap.size, 0, none⟩ (.int .i64 k)).setCell ⟨w.heap.size, 1, none⟩ (.int .i64 bl)).setCell ⟨w.heap.size, 2, none⟩ (.int .i64 ind)).setCell ⟨w.heap.size, 3, none⟩ (.slice (some ⟨g, 0, none⟩) ss.length cap1)) :=
    ((((Only.refl (fun b => b = w.heap.size) w3).set (p := ⟨w.heap.size, 0, none⟩) (.inr rfl) _).set (p := ⟨w.heap.size, 1, none⟩) (.inr rfl) _).set (p := ⟨w.heap.size, 2, none⟩) (.inr rfl) _).set (p := ⟨w.heap.size, 3, none⟩) (.inr rfl) _
  exact hC3.only hO (fun b hb _ e => by
    obtain rfl : g = b := by simpa [Value.ownBlock] using hb
    omega)
end Go.Proofs.YthlnciihabhmaaaFmt
