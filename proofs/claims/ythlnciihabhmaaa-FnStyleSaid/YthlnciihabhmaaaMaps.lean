/-
  laws.pieces, impl.pieces, impl.fodder: a list is turned piece by piece. Conditions: the lists' lengths.
-/
import Derived.Test.YthlnciihabhmaaaPc
import Derived.Test.YthlnciihabhmaaaSame
namespace Go.Proofs.Ythlnciihabhmaaa
open Go.ChangeShapes Go.WideShapes Go.ChangeAt Go.RowKit Go.Joins

theorem implPiece_any (k bl ind : Int) (a : Option Addr) (n cap : Nat) (w : World) :
    Calls Try.prog 32 #[.agg #[.slice a n cap, .int .i64 k, .int .i64 bl, .int .i64 ind]] w fun e w' => e = .returned (.agg #[.int .i64 k, .int .i64 bl, .int .i64 ind, .slice a n cap]) ∧ Below w.heap.size w w' := by
  go_enter Try.func32, Try.ntmps32
  go_wp2
  exact bodyPost_ret (v := .agg #[.int .i64 k, .int .i64 bl, .int .i64 ind, .slice a n cap]) (by simp [results, Try.results32, go_sem]) rfl ⟨rfl, below_alloc2 _ _ _⟩
theorem implPiece_comm {w : World} {v : Value} {ss : List ByteArray} (k bl ind : Int) (h : Comm w v ss) :
    Calls Try.prog 32 #[.agg #[v, .int .i64 k, .int .i64 bl, .int .i64 ind]] w fun e w' => e = .returned (.agg #[.int .i64 k, .int .i64 bl, .int .i64 ind, v]) ∧ Below w.heap.size w w' := by
  obtain ⟨a, cap, rfl⟩ := h.form
  exact implPiece_any k bl ind a _ cap w

theorem infoP : (Try.prog.info? 29).map (fun i => (i.zero, i.size, i.bytes)) = some (some (.agg #[.int .i64 0, .int .i64 0, .int .i64 0, .slice none 0 0]), 4, 48) := by kernel_rfl
theorem infoS : (Try.prog.info? 31).map (fun i => (i.zero, i.size, i.bytes)) = some (some (.agg #[.int .i64 0, .int .i64 0, .int .i64 0, .slice none 0 0]), 4, 48) := by kernel_rfl
theorem infoE : (Try.prog.info? 58).map (fun i => (i.zero, i.size, i.bytes)) = some (some (.agg #[.slice none 0 0, .int .i64 0, .int .i64 0, .int .i64 0]), 4, 48) := by kernel_rfl
/-- The four cells that a piece laid into a new block. -/
theorem news4 {w : World} {c0 c1 c2 c3 : Value} {t : TypeId} {l : List Value} (hl : l = [c0, c1, c2, c3]) : ∀ j u, l[j]? = some u → (w.alloc (.cells #[c0, c1, c2, c3] t)).cell? ((⟨w.heap.size, 0, none⟩ : Addr).add j) = some u := by
  subst hl
  exact World.news_of_block (heap_alloc_new w _)
theorem take_snoc {α : Type} {l : List α} {j : Nat} {p : α} (h : l[j]? = some p) : l.take (j + 1) = l.take j ++ [p] := by
  rw [List.take_add_one, h]; rfl
theorem own_empty {f : Pc → Value → List Value} {X : Nat → Prop} {base : Nat} {t : TypeId} {w : World} {g : Nat} (hb : base ≤ g) (hg : w.heap[g]? = some (.cells #[] t)) : OwnX f X base t w (.slice (some ⟨g, 0, none⟩) 0 0) [] :=
  ⟨[], ⟨rfl, .inr ⟨g, 0, #[], rfl, hb, hg, Nat.le_refl _, by unfold maxLen; omega, rfl, rfl⟩⟩, rfl⟩
theorem implPieces_pcs {w : World} {v : Value} {ps : List Pc} (h : Pcs eV w v ps) (hm : (ps.length : Int) ≤ 2147483647) :
    Calls Try.prog 36 #[v] w fun e w' => (∃ v', e = .returned v' ∧ Own pV w.heap.size 29 w' v' ps) ∧ Below w.heap.size w w' := by
  obtain ⟨a, cap, rfl⟩ := h.form
  obtain ⟨i0, hi0, hz0, hs0, hb0⟩ := info_parts infoP
  have H := Lib.hid h; clear h
  go_enter Try.func36, Try.ntmps36
  go_wp2
  go_loopw [3, 9] (fun v i wr => ∃ j : Nat, j ≤ ps.length ∧ i = .int .i64 j ∧ Own pV w.heap.size 29 wr v (ps.take j) ∧ Below w.heap.size w wr) (fun _ i _ => ps.length - (intOf i).toNat)
  case atStart => exact ⟨0, Nat.zero_le _, rfl, own_empty (Nat.le_refl _) (heap_alloc_new w _), below_alloc1 _ _⟩
  case round =>
    obtain ⟨j, hj, rfl, ⟨xs, hown, hcs⟩, hB⟩ := hrel
    rw [List.length_take, Nat.min_eq_left hj] at hown
    by_cases hjl : j < ps.length
    · obtain ⟨p, hp⟩ : ∃ p, ps[j]? = some p := ⟨_, List.getElem?_eq_getElem hjl⟩
      obtain ⟨b0, off0, u, e0, hlt0, hu0, k0, k1, k2, k3⟩ := H.out.atE hp
      obtain ⟨b, off, u', rfl, hlt, _, c0, c1, c2, c3⟩ := (H.out.below hB).atE hp
      obtain ⟨rfl, rfl⟩ : b = b0 ∧ off = off0 := by injection e0 with e0; injection e0 with e1 e2; exact ⟨e1, e2⟩
      obtain rfl : u = u' := by
        rw [(bcell hB).1 b _ hlt0, k0] at c0
        injection c0
      clear k0 k1 k2 k3
      have HP := Lib.hid hp; clear hp
      obtain ⟨ua, ucap, rfl⟩ := hu0.form
      have HO := Lib.hid hown; clear hown
      go_wp2_with fail
      go_at_call 32
      refine (implPiece_any p.k p.bl p.ind ua p.ss.length ucap _).mono ?_
      rintro e w2 ⟨rfl, hb2⟩
      have hB2 : Below wr.heap.size wr (w2.alloc (.cells #[.int .i64 p.k, .int .i64 p.bl, .int .i64 p.ind, .slice ua p.ss.length ucap] 29)) := ((below_alloc1 _ _).trans (hb2.mono (by simp))).trans ((below_alloc1 _ _).mono (by have := hb2.size; simp at this; omega))
      have hB3 := hB.trans (hB2.mono hB.size)
      have HO2 := Lib.hid (ownsRow_below HO.out hB2); clear HO
      have HC2 := Lib.hid (hcs.below hB2)
      have HU := Lib.hid (hu0.below hB3)
      go_wp2_with (at_builtin; refine wpList_append_lies _ rfl (.tmp 13) (.tmp 16) 22 rfl w.heap.size 29 i0 (.agg #[.int .i64 0, .int .i64 0, .int .i64 0, .slice none 0 0]) 4 48 Try.underlying22 hi0 hz0 hs0 hb0 rfl (by omega) u3 j xs rfl HO2.out ⟨w2.heap.size, 0, none⟩ 1 1 (pV p (.slice ua p.ss.length ucap)) rfl rfl (news4 rfl) (pV_one HU.out) (by omega) (by unfold maxLen; omega) (by omega) hB3.size _ rfl ?_; intro g cap1 w3 hown1 hgrow1 hat1 hlt1)
      have hO3 := OwnX.push HC2.out HU.out (hu0.far_new fun k hk => (HO2.out.lt k (hk.elim False.elim id)).1) hown1 (by rw [List.length_take, Nat.min_eq_left hj]) hgrow1 hat1
      rw [← take_snoc HP.out] at hO3
      have hB4 := hB3.grown hgrow1 hB3.size (fun k hk => (HO2.out.lt k hk).1)
      go_wp2
      go_roundw
      case rel => exact ⟨j + 1, by omega, by go_num, hO3, hB4⟩
      case measure => simp [intOf]; omega
    · have hje : j = ps.length := by omega
      subst hje
      go_wp2
      go_ret
      refine ⟨⟨_, rfl, ?_⟩, hB⟩
      rw [List.take_length] at hcs
      exact ⟨xs, hown, hcs⟩

theorem lawsPieces_pcs {w : World} {v : Value} {ps : List Pc} (h : Pcs pV w v ps) (hm : (ps.length : Int) ≤ 2147483647) :
    Calls Try.prog 9 #[v] w fun e w' => (∃ v', e = .returned v' ∧ Own pV w.heap.size 31 w' v' ps) ∧ Below w.heap.size w w' := by
  obtain ⟨a, cap, rfl⟩ := h.form
  obtain ⟨i0, hi0, hz0, hs0, hb0⟩ := info_parts infoS
  have H := Lib.hid h; clear h
  go_enter Try.func9, Try.ntmps9
  go_wp2
  go_loopw [3, 9] (fun v i wr => ∃ j : Nat, j ≤ ps.length ∧ i = .int .i64 j ∧ Own pV w.heap.size 31 wr v (ps.take j) ∧ Below w.heap.size w wr) (fun _ i _ => ps.length - (intOf i).toNat)
  case atStart => exact ⟨0, Nat.zero_le _, rfl, own_empty (Nat.le_refl _) (heap_alloc_new w _), below_alloc1 _ _⟩
  case round =>
    obtain ⟨j, hj, rfl, ⟨xs, hown, hcs⟩, hB⟩ := hrel
    rw [List.length_take, Nat.min_eq_left hj] at hown
    by_cases hjl : j < ps.length
    · obtain ⟨p, hp⟩ : ∃ p, ps[j]? = some p := ⟨_, List.getElem?_eq_getElem hjl⟩
      obtain ⟨b0, off0, u, e0, hlt0, hu0, k0, k1, k2, k3⟩ := H.out.atP hp
      obtain ⟨b, off, u', rfl, hlt, _, c0, c1, c2, c3⟩ := (H.out.below hB).atP hp
      obtain ⟨rfl, rfl⟩ : b = b0 ∧ off = off0 := by injection e0 with e0; injection e0 with e1 e2; exact ⟨e1, e2⟩
      obtain rfl : u = u' := by
        rw [(bcell hB).1 b _ hlt0, k3] at c3
        injection c3
      clear k0 k1 k2 k3
      have HP := Lib.hid hp; clear hp
      obtain ⟨ua, ucap, rfl⟩ := hu0.form
      have HO := Lib.hid hown; clear hown
      go_wp2_with fail
      go_at_call 14
      refine (piece_any p.k p.bl p.ind ua p.ss.length ucap _).mono ?_
      rintro e w2 ⟨rfl, hb2⟩
      have hB2 : Below wr.heap.size wr (w2.alloc (.cells #[.int .i64 p.k, .int .i64 p.bl, .int .i64 p.ind, .slice ua p.ss.length ucap] 31)) := ((below_alloc1 _ _).trans (hb2.mono (by simp))).trans ((below_alloc1 _ _).mono (by have := hb2.size; simp at this; omega))
      have hB3 := hB.trans (hB2.mono hB.size)
      have HO2 := Lib.hid (ownsRow_below HO.out hB2); clear HO
      have HC2 := Lib.hid (hcs.below hB2)
      have HU := Lib.hid (hu0.below hB3)
      go_wp2_with (at_builtin; refine wpList_append_lies _ rfl (.tmp 13) (.tmp 16) 24 rfl w.heap.size 31 i0 (.agg #[.int .i64 0, .int .i64 0, .int .i64 0, .slice none 0 0]) 4 48 Try.underlying24 hi0 hz0 hs0 hb0 rfl (by omega) u3 j xs rfl HO2.out ⟨w2.heap.size, 0, none⟩ 1 1 (pV p (.slice ua p.ss.length ucap)) rfl rfl (news4 rfl) (pV_one HU.out) (by omega) (by unfold maxLen; omega) (by omega) hB3.size _ rfl ?_; intro g cap1 w3 hown1 hgrow1 hat1 hlt1)
      have hO3 := OwnX.push HC2.out HU.out (hu0.far_new fun k hk => (HO2.out.lt k (hk.elim False.elim id)).1) hown1 (by rw [List.length_take, Nat.min_eq_left hj]) hgrow1 hat1
      rw [← take_snoc HP.out] at hO3
      have hB4 := hB3.grown hgrow1 hB3.size (fun k hk => (HO2.out.lt k hk).1)
      go_wp2
      go_roundw
      case rel => exact ⟨j + 1, by omega, by go_num, hO3, hB4⟩
      case measure => simp [intOf]; omega
    · have hje : j = ps.length := by omega
      subst hje
      go_wp2
      go_ret
      refine ⟨⟨_, rfl, ?_⟩, hB⟩
      rw [List.take_length] at hcs
      exact ⟨xs, hown, hcs⟩

theorem fodder_pcs {w : World} {v : Value} {ps : List Pc} (h : Pcs pV w v ps) (hm : (ps.length : Int) ≤ 2147483647) (hss : ∀ p ∈ ps, p.ss.length ≤ 1000000) :
    Calls Try.prog 27 #[v] w fun e w' => (∃ v', e = .returned v' ∧ OwnX eV (fun k => k < w.heap.size) w.heap.size 58 w' v' ps) ∧ Below w.heap.size w w' := by
  obtain ⟨a, cap, rfl⟩ := h.form
  obtain ⟨i0, hi0, hz0, hs0, hb0⟩ := info_parts infoE
  have H := Lib.hid h; clear h
  go_enter Try.func27, Try.ntmps27
  go_wp2
  go_loopw [3, 9] (fun v i wr => ∃ j : Nat, j ≤ ps.length ∧ i = .int .i64 j ∧ OwnX eV (fun k => k < w.heap.size) w.heap.size 58 wr v (ps.take j) ∧ Below w.heap.size w wr) (fun _ i _ => ps.length - (intOf i).toNat)
  case atStart => exact ⟨0, Nat.zero_le _, rfl, own_empty (Nat.le_refl _) (heap_alloc_new w _), below_alloc1 _ _⟩
  case round =>
    obtain ⟨j, hj, rfl, ⟨xs, hown, hcs⟩, hB⟩ := hrel
    rw [List.length_take, Nat.min_eq_left hj] at hown
    by_cases hjl : j < ps.length
    · obtain ⟨p, hp⟩ : ∃ p, ps[j]? = some p := ⟨_, List.getElem?_eq_getElem hjl⟩
      obtain ⟨b, off, u, rfl, hlt, hu0, c0, c1, c2, c3⟩ := (H.out.below hB).atP hp
      have hs := hss p (List.mem_of_getElem? hp)
      have HS := Lib.hid hss; clear hss
      have HP := Lib.hid hp; clear hp
      obtain ⟨ua, ucap, rfl⟩ := hu0.form
      have HO := Lib.hid hown; clear hown
      go_wp2_with fail
      go_at_call 30
      refine (element_far p.k p.bl p.ind (hu0.below (below_alloc1 wr (.cells #[.int .i64 p.k, .int .i64 p.bl, .int .i64 p.ind, .slice ua p.ss.length ucap] 29))) hs).mono ?_
      rintro e w2 ⟨⟨u', rfl, hu2, hfar⟩, hb2⟩
      obtain ⟨ua', ucap', rfl⟩ := hu2.form
      have HF := Lib.hid hfar; clear hfar
      have hB2 : Below wr.heap.size wr (w2.alloc (.cells #[.slice ua' p.ss.length ucap', .int .i64 p.k, .int .i64 p.bl, .int .i64 p.ind] 58)) := ((below_alloc1 _ _).trans (hb2.mono (by simp))).trans ((below_alloc1 _ _).mono (by have := hb2.size; simp at this; omega))
      have hB3 := hB.trans (hB2.mono hB.size)
      have HO2 := Lib.hid (ownsRow_below HO.out hB2)
      have HC2 := Lib.hid (hcs.below hB2)
      have HU := Lib.hid (hu2.below (below_alloc1 w2 (.cells #[.slice ua' p.ss.length ucap', .int .i64 p.k, .int .i64 p.bl, .int .i64 p.ind] 58)))
      have HR := Lib.hid (show Far (fun k => k < w.heap.size ∨ u3.ownBlock = some k) (.slice ua' p.ss.length ucap') p.ss from fun h0 b2 hb2 e => by
        obtain ⟨b', hb', hle⟩ := HF.out h0
        rw [hb'] at hb2
        injection hb2 with hb2
        subst hb2
        simp at hle
        rcases e with e | e
        · have := hB.size
          omega
        · have := (HO.out.lt b' e).2
          omega); clear HO
      go_wp2_with (at_builtin; refine wpList_append_lies _ rfl (.tmp 13) (.tmp 16) 43 rfl w.heap.size 58 i0 (.agg #[.slice none 0 0, .int .i64 0, .int .i64 0, .int .i64 0]) 4 48 Try.underlying43 hi0 hz0 hs0 hb0 rfl (by omega) u3 j xs rfl HO2.out ⟨w2.heap.size, 0, none⟩ 1 1 (eV p (.slice ua' p.ss.length ucap')) rfl rfl (news4 rfl) (eV_one HU.out) (by omega) (by unfold maxLen; omega) (by omega) hB3.size _ rfl ?_; intro g cap1 w3 hown1 hgrow1 hat1 hlt1)
      have hO3 := OwnX.push HC2.out HU.out HR.out hown1 (by rw [List.length_take, Nat.min_eq_left hj]) hgrow1 hat1
      rw [← take_snoc HP.out] at hO3
      have hB4 := hB3.grown hgrow1 hB3.size (fun k hk => (HO2.out.lt k hk).1)
      go_wp2
      go_roundw
      case rel => exact ⟨j + 1, by omega, by go_num, hO3, hB4⟩
      case measure => simp [intOf]; omega
    · have hje : j = ps.length := by omega
      subst hje
      go_wp2
      go_ret
      refine ⟨⟨_, rfl, ?_⟩, hB⟩
      rw [List.take_length] at hcs
      exact ⟨xs, hown, hcs⟩

end Go.Proofs.Ythlnciihabhmaaa
