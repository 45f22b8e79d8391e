/-
  (*passes.StripComments).Fodder, impl.StripComments. Conditions: the lists' lengths.
-/
import Derived.Test.YthlnciihabhmaaaStrip
import Derived.Laws.MakeOwn
namespace Go.Proofs.Ythlnciihabhmaaa
open Go.ChangeShapes Go.WideShapes Go.ChangeAt Go.RowKit Go.Joins

/-- What is left where comments are left out. -/
def noComm (ps : List Pc) : List Pc := (ps.filter fun p => p.k == 0).map fun p => ⟨p.k, p.bl, p.ind, []⟩
theorem noComm_skip {ps : List Pc} {j : Nat} {p : Pc} (hp : ps[j]? = some p) (hk : p.k ≠ 0) : noComm (ps.take (j + 1)) = noComm (ps.take j) := by
  rw [take_snoc hp]
  simp [noComm, List.filter_append, hk]
theorem noComm_take {ps : List Pc} {j : Nat} {p : Pc} (hp : ps[j]? = some p) (hk : p.k = 0) : noComm (ps.take (j + 1)) = noComm (ps.take j) ++ [⟨0, p.bl, p.ind, []⟩] := by
  rw [take_snoc hp]
  simp [noComm, List.filter_append, hk]
theorem noComm_len (ps : List Pc) : (noComm ps).length ≤ ps.length := by
  unfold noComm
  rw [List.length_map]
  exact List.length_filter_le _ _
theorem noComm_comms (ps : List Pc) : comms (noComm ps) = [] := by
  unfold noComm comms
  simp
  intro _ _ _ _ h
  rw [← h]
theorem noComm_ss (ps : List Pc) : ∀ p ∈ noComm ps, p.ss = [] := fun p hp => by
  unfold noComm at hp
  obtain ⟨q, _, rfl⟩ := List.mem_map.1 hp
  rfl
theorem noComm_same {ps : List Pc} (h : ∀ p ∈ ps, p.Sound) (hc : comms ps = []) : noComm ps = ps := by
  induction ps with
  | nil => rfl
  | cons p ps ih =>
    have e : comms (p :: ps) = p.ss ++ comms ps := rfl
    rw [e] at hc
    obtain ⟨h1, h2⟩ := List.append_eq_nil_iff.1 hc
    have hs := h p (by simp)
    have hk : p.k = 0 := by
      obtain ⟨_, _, _, _, hs⟩ := hs
      rw [h1] at hs
      simp at hs
      omega
    have i := ih (fun q hq => h q (by simp [hq])) h2
    unfold noComm at i ⊢
    obtain ⟨k, bl, ind, ss⟩ := p
    subst h1 hk
    simp
    exact i
theorem Cells.free {f : Pc → Value → List Value} {X : Nat → Prop} {w : World} : ∀ {ps : List Pc} {xs : List Value}, Cells f X w ps xs → (∀ p ∈ ps, p.ss = []) → ∀ (Y : Nat → Prop) (w' : World), Cells f Y w' ps xs
  | [], _, h, _, _, _ => h
  | p :: ps, _, ⟨u, ys, hc, hf, hr, e⟩, hn, Y, w' => ⟨u, ys, by
      have h := hn p (by simp)
      rw [h] at hc ⊢
      rcases hc with hc | ⟨h0, _⟩
      · exact .inl hc
      · simp at h0, by rw [hn p (by simp)]; exact Far.nil _ _, hr.free (fun q hq => hn q (by simp [hq])) Y w', e⟩
set_option maxRecDepth 100000 in
theorem stripC {w : World} {A B : Nat} {v : Value} {ps : List Pc} (hA : Var w A 43 v) (h : Pcs eV w v ps) (hm : (ps.length : Int) ≤ 1000) :
    Calls Try.prog 37 #[.pointer (some ⟨B, 0, none⟩), .iface 73 (.pointer (some ⟨B, 0, none⟩)), .pointer (some ⟨A, 0, none⟩), .nilIface] w fun e w' => e = .returned (.tuple #[]) ∧ ∃ v', Var w' A 43 v' ∧ Own eV w.heap.size 58 w' v' (noComm ps) ∧ Only (fun k => k = A) w w' := by
  obtain ⟨a, cap, rfl⟩ := h.form
  have x0 := hA.cell
  have x1 := hA.free
  have x2 := hA.lt
  have HA := Lib.hid hA
  have HP := Lib.hid h
  clear hA h
  obtain ⟨i0, hi0, hz0, hs0, hb0⟩ := info_parts infoE
  go_enter Try.func37, Try.ntmps37
  have hmk := run_makeSlice (P := Try.prog) (w := w) 43 58 i0 (.agg #[.slice none 0 0, .int .i64 0, .int .i64 0, .int .i64 0]) Try.underlying43 hi0 hz0 .i64 .i64 0 0 (Int.le_refl _) (Int.le_refl _) (by simp) (by simp) (by simp)
  have hmk2 : (Instr.makeSlice 43 (.int .i64 0) (.int .i64 0)).run Try.prog w = .ok (.slice (some ⟨w.heap.size, 0, none⟩) 0 0) (w.alloc (.cells #[] 58)) := by
    rw [hmk, hs0]
    simp [madeCells, Array.range_zero']
  clear hmk
  go_wp2
  clear hmk2
  go_loopw [8, 17] (fun v i wr => ∃ j : Nat, j ≤ ps.length ∧ i = .int .i64 j ∧ Own eV w.heap.size 58 wr v (noComm (ps.take j)) ∧ Below w.heap.size w wr) (fun _ i _ => ps.length - (intOf i).toNat)
  case atStart => exact ⟨0, Nat.zero_le _, rfl, own_empty (Nat.le_refl _) (heap_alloc_new w _), below_alloc1 _ _⟩
  case round =>
    obtain ⟨j, hj, rfl, ⟨xs, hown, hcs⟩, hB⟩ := hrel
    obtain ⟨L, hL⟩ : ∃ L, (noComm (ps.take j)).length = L := ⟨_, rfl⟩
    have hLm : L ≤ 1000 := by
      have := noComm_len (ps.take j)
      rw [List.length_take] at this
      omega
    rw [hL] at hown
    by_cases hjl : j < ps.length
    · obtain ⟨p, hp⟩ : ∃ p, ps[j]? = some p := ⟨_, List.getElem?_eq_getElem hjl⟩
      obtain ⟨b, off, u, rfl, hlt, hu, c0, c1, c2, c3⟩ := (HP.out.below hB).atE hp
      obtain ⟨ua, ucap, rfl⟩ := hu.form
      clear hu
      have HQ := Lib.hid hp; clear hp
      have HO := Lib.hid hown; clear hown
      have HC := Lib.hid hcs; clear hcs
      have HL := Lib.hid hL; clear hL
      by_cases hk : p.k = 0
      · have hk2 : (p.k == 0) = true := by simp [hk]
        have HK := Lib.hid hk; clear hk
        have hB2 : Below wr.heap.size wr (((wr.alloc (.cells #[.slice ua p.ss.length ucap, .int .i64 p.k, .int .i64 p.bl, .int .i64 p.ind] 58)).alloc (.cells #[.slice none 0 0, .int .i64 p.k, .int .i64 p.bl, .int .i64 p.ind] 58)).alloc (.cells #[.slice none 0 0, .int .i64 p.k, .int .i64 p.bl, .int .i64 p.ind] 58)) := below_alloc3 _ _ _ _
        have hB3 := hB.trans (hB2.mono hB.size)
        have HO2 := Lib.hid (ownsRow_below HO.out hB2)
        have HC2 := Lib.hid (HC.out.below hB2)
        have HU := Lib.hid (Comm.nil (((wr.alloc (.cells #[.slice ua p.ss.length ucap, .int .i64 p.k, .int .i64 p.bl, .int .i64 p.ind] 58)).alloc (.cells #[.slice none 0 0, .int .i64 p.k, .int .i64 p.bl, .int .i64 p.ind] 58)).alloc (.cells #[.slice none 0 0, .int .i64 p.k, .int .i64 p.bl, .int .i64 p.ind] 58)) none 0)
        have hnews := news4 (w := (wr.alloc (.cells #[.slice ua p.ss.length ucap, .int .i64 p.k, .int .i64 p.bl, .int .i64 p.ind] 58)).alloc (.cells #[.slice none 0 0, .int .i64 p.k, .int .i64 p.bl, .int .i64 p.ind] 58)) (c0 := .slice none 0 0) (c1 := .int .i64 p.k) (c2 := .int .i64 p.bl) (c3 := .int .i64 p.ind) (t := 58) (l := eV ⟨p.k, p.bl, p.ind, []⟩ (.slice none 0 0)) rfl
        rw [show (((wr.alloc (.cells #[.slice ua p.ss.length ucap, .int .i64 p.k, .int .i64 p.bl, .int .i64 p.ind] 58)).alloc (.cells #[.slice none 0 0, .int .i64 p.k, .int .i64 p.bl, .int .i64 p.ind] 58))).heap.size = wr.heap.size + 1 + 1 by simp] at hnews
        have HW := Lib.hid hnews; clear hnews
        go_wp2_with (at_builtin; refine wpList_append_lies _ rfl (.tmp 26) (.tmp 28) 43 rfl w.heap.size 58 i0 (.agg #[.slice none 0 0, .int .i64 0, .int .i64 0, .int .i64 0]) 4 48 Try.underlying43 hi0 hz0 hs0 hb0 rfl (by omega) u8 L xs rfl HO2.out ⟨wr.heap.size + 1 + 1, 0, none⟩ 1 1 (eV ⟨p.k, p.bl, p.ind, []⟩ (.slice none 0 0)) rfl rfl HW.out (eV_one HU.out) (by omega) (by unfold maxLen; omega) (by omega) hB3.size _ rfl ?_; intro g cap1 w3 hown1 hgrow1 hat1 hlt1)
        have hO3 := OwnX.push (p := ⟨p.k, p.bl, p.ind, []⟩) HC2.out HU.out (Far.nil _ _) hown1 (by rw [HL.out]) hgrow1 hat1
        have hB4 := hB3.grown hgrow1 hB3.size (fun k hk => (HO2.out.lt k hk).1)
        go_wp2
        go_roundw
        case rel => exact ⟨j + 1, by omega, by go_num, by rw [noComm_take HQ.out HK.out, ← HK.out]; exact hO3, hB4⟩
        case measure => simp [intOf]; omega
      · have hk2 : (p.k == 0) = false := by simp [hk]
        have HK := Lib.hid hk; clear hk
        have hB2 := hB.alloc hB.size (.cells #[.slice ua p.ss.length ucap, .int .i64 p.k, .int .i64 p.bl, .int .i64 p.ind] 58)
        have HO2 := Lib.hid (ownsRow_below HO.out (below_alloc1 wr (.cells #[.slice ua p.ss.length ucap, .int .i64 p.k, .int .i64 p.bl, .int .i64 p.ind] 58)))
        have HC2 := Lib.hid (HC.out.below (below_alloc1 wr (.cells #[.slice ua p.ss.length ucap, .int .i64 p.k, .int .i64 p.bl, .int .i64 p.ind] 58)))
        go_wp2
        go_roundw
        case rel => exact ⟨j + 1, by omega, by go_num, by rw [noComm_skip HQ.out HK.out]; exact ⟨xs, by rw [HL.out]; exact HO2.out, HC2.out⟩, hB2⟩
        case measure => simp [intOf]; omega
    · have hje : j = ps.length := by omega
      subst hje
      rw [List.take_length] at hL hcs
      obtain ⟨a8, n8, c8, rfl⟩ : ∃ a n c, u8 = .slice a n c := by
        rcases hown.2 with ⟨h, _⟩ | ⟨g, c, cur, h, _⟩
        · exact ⟨_, _, _, h⟩
        · exact ⟨_, _, _, h⟩
      have HB := Lib.hid hB
      have HV := Lib.hid (HA.out.below hB)
      have z0 := HV.out.lt
      have z1 := HV.out.cell
      have z2 := HV.out.free
      have hne := HV.out.ne_ hown (by decide)
      have HW := Lib.hid (ownsRow_only (S := fun k => k = A) hown ((Only.refl (fun k => k = A) wr).set (p := ⟨A, 0, none⟩) (.inr rfl) (.slice a8 n8 c8)) (fun b hb e => hne (by rw [hb, e])))
      have HC := Lib.hid (hcs.free (fun p hp => noComm_ss ps p hp) (fun k => False ∨ (Value.slice a8 n8 c8).ownBlock = some k) (wr.setCell ⟨A, 0, none⟩ (.slice a8 n8 c8)))
      have HL := Lib.hid hL
      clear hown hcs hL hne hB
      go_wp2
      go_end0
      refine ⟨rfl, _, HV.out.set_ _, ⟨xs, by rw [HL.out]; exact HW.out, HC.out⟩, (Only.of_below (S := fun k => k = A) HB.out).set (p := ⟨A, 0, none⟩) (.inr rfl) _⟩
theorem implStripC {w : World} {v : Value} {ps : List Pc} (h : Pcs pV w v ps) (hm : (ps.length : Int) ≤ 1000) (hn : ∀ q ∈ ps, q.ss.length ≤ 1000000) :
    Calls Try.prog 22 #[v] w fun e w' => (∃ v', e = .returned v' ∧ Pcs pV w' v' (noComm ps)) ∧ Below w.heap.size w w' := by
  obtain ⟨a, cap, rfl⟩ := h.form
  have hB1 := below_alloc1 w (.cells #[] 74)
  have HP := Lib.hid (h.below hB1)
  have HN := Lib.hid hn
  have HL := Lib.hid (noComm_len ps)
  clear h hn
  go_enter Try.func22, Try.ntmps22
  go_wp2_with fail
  refine (fodder_pcs HP.out (by omega) HN.out).mono ?_
  rintro e w2 ⟨⟨v1, rfl, ho⟩, hb2⟩
  obtain ⟨a1, cap1, rfl⟩ := ho.pcs.form
  have hB2 := hB1.trans (hb2.mono hB1.size)
  have hb3 := below_alloc1 w2 (.cells #[.slice a1 ps.length cap1] 43)
  have HO := Lib.hid (ho.pcs.below hb3)
  have hB3 := hB2.trans (hb3.mono hB2.size)
  have hV3 : Var (w2.alloc (.cells #[.slice a1 ps.length cap1] 43)) w2.heap.size 43 (.slice a1 ps.length cap1) := heap_alloc_new w2 _
  have HV3 := Lib.hid hV3; clear hV3 ho hb3
  go_wp2_with fail
  refine (stripC HV3.out HO.out hm).mono ?_
  rintro e w4 ⟨rfl, v4, hv4, ho4, hn4⟩
  obtain ⟨a4, cap4, rfl⟩ := ho4.pcs.form
  have y0 := hv4.lt
  have y1 := hv4.cell
  have hB4 := hB3.trans (hn4.below hB3.size (fun k hk => by rw [hk]; exact hB2.size))
  have HO4 := Lib.hid ho4.pcs; clear ho4 hv4 hn4
  go_wp2_with fail
  refine (implPieces_pcs HO4.out (by have := HL.out; omega)).mono ?_
  rintro e w6 ⟨⟨v6, rfl, ho6⟩, hb6⟩
  have HO6 := Lib.hid ho6; clear ho6
  have hB6 := hB4.trans (hb6.mono hB4.size)
  go_wp2
  go_ret
  exact ⟨⟨_, rfl, HO6.out.pcs⟩, hB6⟩
end Go.Proofs.Ythlnciihabhmaaa
