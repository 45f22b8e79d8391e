/-
  spec.Join over lists of pieces. Conditions: the lists' lengths, the numbers of blank lines.
-/
import Derived.Test.YthlnciihabhmaaaFmtAppend
namespace Go.Proofs.YthlnciihabhmaaaFmt
open Go.ChangeShapes Go.WideShapes Go.ChangeAt Go.RowKit Go.Joins

def joinTo (ps qs : List Pc) (j : Nat) : List Pc := if j = 0 then ps else match qs with | [] => ps | q :: r => appendP ps q ++ r.take (j - 1)
theorem appendP_len (ps : List Pc) (p : Pc) : (appendP ps p).length ≤ ps.length + 2 := by
  unfold appendP lastPlus
  split
  · split
    · simp
    · split <;> simp <;> omega
  · split <;> simp
theorem joinTo_len (ps qs : List Pc) (j : Nat) : (joinTo ps qs j).length ≤ ps.length + 2 + qs.length := by
  unfold joinTo
  split
  · omega
  · split
    · omega
    · have := appendP_len ps ‹Pc›
      simp
      omega
theorem joinTo_one {ps qs : List Pc} {p : Pc} (h : qs[0]? = some p) : joinTo ps qs (0 + 1) = appendP ps p := by
  cases qs with
  | nil => simp at h
  | cons q r =>
    have e : q = p := by simpa using h
    subst e
    simp [joinTo]
theorem joinTo_succ {ps qs : List Pc} {p : Pc} {j : Nat} (h : qs[j]? = some p) (hj : 0 < j) : joinTo ps qs (j + 1) = joinTo ps qs j ++ [p] := by
  cases qs with
  | nil => simp at h
  | cons q r =>
    obtain ⟨i, rfl⟩ : ∃ i, j = i + 1 := ⟨j - 1, by omega⟩
    have e : r[i]? = some p := by simpa using h
    have ht := take_snoc e
    simp [joinTo, ht]
theorem joinTo_all {ps qs : List Pc} (h : ps ≠ []) : joinTo ps qs qs.length = joinP ps qs := by
  cases ps with
  | nil => exact absurd rfl h
  | cons a ps =>
    cases qs with
    | nil => rfl
    | cons q r => simp [joinTo, joinP]

theorem join_pcs {w : World} {v v' : Value} {ps qs : List Pc} (h : Pcs pV w v ps) (h' : Pcs pV w v' qs) (hm : (ps.length : Int) ≤ 1000) (hm' : (qs.length : Int) ≤ 1000) (hk : ∀ p ∈ qs, p.k = 0 ∨ p.k = 1 ∨ p.k = 2) (hb : ∀ q ∈ ps, 0 ≤ q.bl ∧ q.bl ≤ 1000000) (hb' : ∀ q ∈ qs, 0 ≤ q.bl ∧ q.bl ≤ 1000000) :
    Calls Tryf.prog 34 #[v, v'] w fun e w' => (∃ v'', e = .returned v'' ∧ Pcs pV w' v'' (joinP ps qs)) ∧ Below w.heap.size w w' := by
  obtain ⟨a, cap, rfl⟩ := h.form
  obtain ⟨a', cap', rfl⟩ := h'.form
  rcases Nat.eq_zero_or_pos ps.length with h0 | h0
  · obtain rfl := List.eq_nil_of_length_eq_zero h0
    have H := Lib.hid h'; clear h h' h0 hk hb hb'
    have e : joinP [] qs = qs := by simp [joinP]
    rw [e]
    go_enter Tryf.func34, Tryf.ntmps34
    go_wp2
    go_ret
    exact ⟨⟨_, rfl, H.out⟩, Below.refl _ _⟩
  have hne : ps ≠ [] := fun e => by subst e; simp at h0
  have HE := Lib.hid (joinTo_all (qs := qs) hne); clear hne
  have H := Lib.hid h; clear h
  have H' := Lib.hid h'; clear h'
  have HK := Lib.hid hk; clear hk
  have HB := Lib.hid hb; clear hb
  have HB' := Lib.hid hb'; clear hb'
  have hz : ((ps.length : Int) == 0) = false := by rw [beq_eq_false_iff_ne]; omega
  have hz' : (ps.length == 0) = false := by rw [beq_eq_false_iff_ne]; omega
  have hz'' : ps.isEmpty = false := by rw [List.isEmpty_eq_false_iff]; exact fun e => by subst e; simp at h0
  have HZ := Lib.hid h0; clear h0
  go_enter Tryf.func34, Tryf.ntmps34
  go_wp2
  go_loopw [0, 13] (fun v i wr => ∃ j : Nat, j ≤ qs.length ∧ i = .int .i64 j ∧ Pcs pV wr v (joinTo ps qs j) ∧ Below w.heap.size w wr) (fun _ i _ => qs.length - (intOf i).toNat)
  case atStart => exact ⟨0, Nat.zero_le _, rfl, H.out, Below.refl _ _⟩
  case round =>
    obtain ⟨j, hj, rfl, hP, hB⟩ := hrel
    have HP := Lib.hid hP; clear hP
    by_cases hjl : j < qs.length
    · obtain ⟨p, hp⟩ : ∃ p, qs[j]? = some p := ⟨_, List.getElem?_eq_getElem hjl⟩
      obtain ⟨b, off, u, rfl, hlt, hu, c0, c1, c2, c3⟩ := (H'.out.below hB).atP hp
      have hmem := List.mem_of_getElem? hp
      have HQ := Lib.hid hp; clear hp
      obtain ⟨ua, ucap, rfl⟩ := hu.form
      have hU := hu.below (below_alloc1 wr (.cells #[.int .i64 p.k, .int .i64 p.bl, .int .i64 p.ind, .slice ua p.ss.length ucap] 26))
      have hB2 := hB.trans ((below_alloc1 wr (.cells #[.int .i64 p.k, .int .i64 p.bl, .int .i64 p.ind, .slice ua p.ss.length ucap] 26)).mono hB.size)
      have hP2 := HP.out.below (below_alloc1 wr (.cells #[.int .i64 p.k, .int .i64 p.bl, .int .i64 p.ind, .slice ua p.ss.length ucap] 26))
      rcases Nat.eq_zero_or_pos j with hj0 | hj0
      · subst hj0
        have e0 : joinTo ps qs 0 = ps := by simp [joinTo]
        simp only [Nat.zero_mul, Nat.add_zero] at c0 c1 c2 c3
        rw [e0] at hP2
        go_wp2_with fail
        go_at_call 26
        refine (append_pcs (p := p) hP2 hU (by omega) (HK.out p hmem) (HB'.out p hmem) HB.out).mono ?_
        rintro e w2 ⟨⟨v', rfl, hv⟩, hb2⟩
        have hB3 := hB2.trans (hb2.mono hB2.size)
        have HV := Lib.hid hv; clear hv
        go_wp2
        go_roundw
        case rel => exact ⟨0 + 1, by omega, by go_num, by rw [joinTo_one HQ.out]; exact HV.out, hB3⟩
        case measure => simp [intOf]; omega
      · have hz2 : ((j : Int) == 0) = false := by rw [beq_eq_false_iff_ne]; omega
        have hz3 : (j == 0) = false := by rw [beq_eq_false_iff_ne]; omega
        have hlen := joinTo_len ps qs j
        go_wp2_with fail
        go_at_call 30
        refine (with_pcs (p := p) hP2 hU (by omega)).mono ?_
        rintro e w2 ⟨⟨v', rfl, hv⟩, hb2⟩
        have hB3 := hB2.trans (hb2.mono hB2.size)
        have HV := Lib.hid hv; clear hv
        go_wp2
        go_roundw
        case rel => exact ⟨j + 1, by omega, by go_num, by rw [joinTo_succ HQ.out hj0]; exact HV.out.pcs, hB3⟩
        case measure => simp [intOf]; omega
    · have hje : j = qs.length := by omega
      subst hje
      go_wp2
      go_ret
      exact ⟨⟨_, rfl, HE.out ▸ HP.out⟩, hB⟩
end Go.Proofs.YthlnciihabhmaaaFmt
