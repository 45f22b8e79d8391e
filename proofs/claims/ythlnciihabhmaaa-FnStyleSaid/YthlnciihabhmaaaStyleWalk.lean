/-
  FnStyle's walk: a comment of one line begins as asked for. Conditions: the comment reads as a list of texts.
-/
import Derived.Test.YthlnciihabhmaaaStyled
namespace Go.Proofs.Ythlnciihabhmaaa
open Go.ChangeShapes Go.WideShapes Go.ChangeAt Go.RowKit Go.Joins

/-- So far all lines have two bytes at least, and behind / another one. -/
def LinesTo (ss : List ByteArray) (j : Nat) : Prop := ∀ i s, i < j → ss[i]? = some s → 2 ≤ s.size ∧ (At s 0 47 → At s 1 47)
theorem LinesTo.succ {ss : List ByteArray} {j : Nat} {s : ByteArray} (h : LinesTo ss j) (hs : ss[j]? = some s) (h1 : 2 ≤ s.size) (h2 : At s 0 47 → At s 1 47) : LinesTo ss (j + 1) := fun i t hi ht => by
  by_cases e : i = j
  · subst e
    rw [hs] at ht
    obtain rfl := Option.some.inj ht
    exact ⟨h1, h2⟩
  · exact h i t (by omega) ht
theorem LinesTo.all {ss : List ByteArray} (h : LinesTo ss ss.length) : ∀ s ∈ ss, 2 ≤ s.size ∧ (At s 0 47 → At s 1 47) := fun s hs => by
  obtain ⟨i, hi⟩ := List.getElem?_of_mem hs
  exact h i s (List.getElem?_eq_some_iff.1 hi).1 hi
theorem Comm.at_ {w : World} {a : Option Addr} {n cap : Nat} {ss : List ByteArray} (h : Comm w (.slice a n cap) ss) {i : Nat} {s : ByteArray} (hi : ss[i]? = some s) : ∃ b off, a = some ⟨b, off, none⟩ ∧ b < w.heap.size ∧ w.cell? ⟨b, off + i, none⟩ = some (.string s) := by
  rcases h with ⟨rfl, _⟩ | ⟨h0, b, off, cap', e, hlt, hT⟩
  · simp at hi
  · injection e with e1 _ _
    exact ⟨b, off, e1, hlt, hT i s hi⟩
theorem style_walk {W : World} {v : Value} {ss : List ByteArray} {m k bl ind : Int} (h : Comm W v ss) (hm : (ss.length : Int) ≤ 9223372036854775807) :
    Calls Try.prog 5 #[.int .i64 m, .agg #[.int .i64 k, .int .i64 bl, .int .i64 ind, v]] W fun e W' => e = .returned (.bool true) ∧ Below W.heap.size W W' := by
  obtain ⟨a, cap, rfl⟩ := h.form
  have HC := Lib.hid h; clear h
  have hB1 := below_alloc1 W (.cells #[.int .i64 k, .int .i64 bl, .int .i64 ind, .slice a ss.length cap] 29)
  have C1 := Lib.hid (HC.out.below hB1)
  have X1 := Lib.hid (heap_alloc_new W (.cells #[.int .i64 k, .int .i64 bl, .int .i64 ind, .slice a ss.length cap] 29))
  go_enter Try.func5, Try.ntmps5
  go_wp2_with fail
  refine (fits2_comm k bl ind C1.out hm).mono ?_
  rintro e w1 ⟨⟨r, rfl⟩, hb1⟩
  have hB2 := hB1.trans (hb1.mono hB1.size)
  cases r
  · go_wp2
    go_ret
    exact ⟨rfl, hB2⟩
  have X2 := Lib.hid ((hb1.block W.heap.size (by simp)).trans X1.out)
  have C2 := Lib.hid (C1.out.below hb1)
  obtain ⟨x0, x1, x2, x3, xf⟩ := Box4.cells X2.out
  have z2 : W.heap.size < w1.heap.size := by have := hb1.size; simp at this; omega
  clear hb1
  go_wp2_with fail
  refine (piece_any k bl ind a ss.length cap _).mono ?_
  rintro e w2 ⟨rfl, hb2⟩
  have hB3 := hB2.trans (hb2.mono hB2.size)
  have X3 := Lib.hid ((hb2.block W.heap.size z2).trans X2.out)
  have hba := below_alloc1 w2 (.cells #[.int .i64 k, .int .i64 bl, .int .i64 ind, .slice a ss.length cap] 31)
  have C3 := Lib.hid ((C2.out.below hb2).below hba)
  have X4 := Lib.hid ((hba.block W.heap.size (by have := hb2.size; omega)).trans X3.out)
  have Y4 := Lib.hid (heap_alloc_new w2 (.cells #[.int .i64 k, .int .i64 bl, .int .i64 ind, .slice a ss.length cap] 31))
  have z3 : W.heap.size < w2.heap.size := by have := hb2.size; omega
  have hB4 := hB3.trans (hba.mono hB3.size)
  clear hb2 hba x0 x1 x2 x3 xf
  go_wp2_with fail
  refine (sound_comm k bl ind C3.out hm).mono ?_
  rintro e w3 ⟨⟨r, rfl, hr⟩, hb3⟩
  have hB5 := hB4.trans (hb3.mono hB4.size)
  cases r
  · clear hr
    go_wp2
    go_ret
    exact ⟨rfl, hB5⟩
  have SP := Lib.hid (hr rfl)
  clear hr
  have hss : ss.length ≤ 1000000 := Nat.le_trans SP.out.2.2.1 (by omega)
  have hs4 := SP.out.2.2.2.1
  have HS4 := Lib.hid hs4; clear hs4
  have C5 := Lib.hid (C3.out.below hb3)
  have X5 := Lib.hid ((hb3.block W.heap.size (by simp; omega)).trans X4.out)
  have Y5 := Lib.hid ((hb3.block w2.heap.size (by simp)).trans Y4.out)
  obtain ⟨x0, x1, x2, x3, xf⟩ := Box4.cells X5.out
  obtain ⟨y0, y1, y2, y3, yf⟩ := Box4.cells Y5.out
  have z5 : w2.heap.size < w3.heap.size := by have := hb3.size; simp at this; omega
  have z6 : W.heap.size < w3.heap.size := by omega
  clear hb3
  by_cases h1 : m < 0
  · go_wp2
    go_ret
    exact ⟨rfl, hB5⟩
  by_cases h2 : 2 < m
  · go_wp2
    go_ret
    exact ⟨rfl, hB5⟩
  go_wp2_with fail
  go_loopw [27] (fun i wr => ∃ j : Nat, j ≤ ss.length ∧ i = .int .i64 j ∧ LinesTo ss j ∧ w3 = wr) (fun i _ => ss.length - (intOf i).toNat)
  case atStart => exact ⟨0, Nat.zero_le _, rfl, fun i s h => absurd h (by omega), rfl⟩
  case round =>
    obtain ⟨j, hj, rfl, hL, rfl⟩ := hrel
    have HL := Lib.hid hL; clear hL
    by_cases hjl : j < ss.length
    · obtain ⟨s, hs⟩ : ∃ s, ss[j]? = some s := ⟨_, List.getElem?_eq_getElem hjl⟩
      obtain ⟨b, off, rfl, hlt, cs⟩ := C5.out.at_ hs
      have HS := Lib.hid hs; clear hs
      by_cases hsz : s.size < 2
      · have hsz' : (s.size : Int) < 2 := by omega
        go_wp2
        go_ret
        exact ⟨rfl, hB5⟩
      have hs0 : 0 < s.size := by omega
      have hs1 : 1 < s.size := by omega
      have hsz' : ¬ (s.size : Int) < 2 := by omega
      go_wp2
      · go_ret
        exact ⟨rfl, hB5⟩
      · rename_i e0 _ e1
        go_roundw
        case rel => exact ⟨j + 1, by omega, by go_num, HL.out.succ HS.out (by omega) (fun _ => ⟨hs1, by simpa using e1⟩), by trivial⟩
        case measure => simp [intOf]; omega
      · rename_i e0
        go_roundw
        case rel => exact ⟨j + 1, by omega, by go_num, HL.out.succ HS.out (by omega) (fun h => absurd h.2 e0), by trivial⟩
        case measure => simp [intOf]; omega
    · have hje : j = ss.length := by omega
      subst hje
      have HA := Lib.hid HL.out.all
      have HP1 := Lib.hid (fun s hs => ⟨(HA.out s hs).1, HS4.out s hs⟩ : ∀ s ∈ ss, 2 ≤ s.size ∧ s.size ≤ 400)
      have HP2 := Lib.hid (fun s hs => ⟨HS4.out s hs, (HA.out s hs).2⟩ : ∀ s ∈ ss, s.size ≤ 400 ∧ (At s 0 47 → At s 1 47))
      go_wp2_with fail
      go_region_held3 (Stay w3) (first | (with_reducible assumption) | (exact stay_start _) | (exact stay_step (by assumption) (by assumption)))
        ((first
          | (go_at_call 19; with_reducible (refine (implStyle (C5.out.below (And.left ‹Stay w3 _›)) hss HP1.out).mono ?_); rintro e w4 ⟨⟨v4, ss4, rfl, hv4, hst4⟩, hb4⟩; obtain ⟨a4, c4, rfl⟩ := hv4.form; have V4 := Lib.hid hv4; have T4 := Lib.hid hst4; clear hv4 hst4)
          | (go_at_call 14; with_reducible (refine (piece_any k bl ind a4 ss4.length c4 _).mono ?_); rintro e w5 ⟨rfl, hb5⟩; have V5 := Lib.hid (V4.out.below hb5))
          | (go_at_call 20; with_reducible (refine (specStyled (m := m) (C5.out.below (And.left ‹Stay w3 _›)) HP2.out).mono ?_); rintro e w6 ⟨⟨v6, ss6, rfl, hv6, hst6⟩, hb6⟩; obtain rfl := hst6.det T4.out; obtain ⟨a6, c6, rfl⟩ := hv6.form; have V6 := Lib.hid hv6; have hm6 : (ss6.length : Int) ≤ 9223372036854775807 := (by rw [hst6.len]; exact hm); clear hv6 hst6)
          | (go_at_call 16; with_reducible (refine (samePiece_comm k bl ind (V5.out.below hb6) V6.out hm6).mono ?_); rintro e w7 ⟨rfl, hb7⟩)))
      all_goals
        have hB10 := hB5.trans ((And.left ‹Stay w3 _›).mono hB5.size)
        go_wp2
        go_ret
        exact ⟨rfl, hB10⟩
end Go.Proofs.Ythlnciihabhmaaa
