/-
  ast.BuildSource, impl.Lines: a text is divided into its lines. Conditions: the text's length; it is one of whole characters.
-/
import Derived.Test.YthppionkcfkafaaDoorLines
import Derived.Test.YthppionkcfkafaaDoorBuf
import Derived.Lib.BufferKept
import Derived.Lib.OwnKind
namespace Go.Proofs.YthppionkcfkafaaDoor
open Go.ChangeShapes Go.WideShapes Go.ChangeAt Go.RowKit Go.Joins

/-- A row of texts stays where a buffer is written. -/
theorem OwnS.others {base : Nat} {w w' : World} {v : Value} {ls : List (List UInt8)} {b : Nat} (h : OwnS base w v ls) (hk : Lib.OthersKept 5 (some b) w w') (hb : ∀ g, v.ownBlock = some g → g ≠ b) : OwnS base w' v ls := by
  refine ownsRow_keep h fun g hg => ?_
  obtain ⟨_, c, hc⟩ := h.kind g hg
  rw [hc]
  refine hk g _ hc (fun e => hb g hg (by injection e)) fun c' fz e => ?_
  injection e with _ e2 _
  exact absurd e2 (by decide)
/-- A row of texts is no buffer. -/
theorem OwnS.ne_buf {base B b : Nat} {w : World} {v : Value} {ls : List (List UInt8)} {bs : List Value} (h : OwnS base w v ls) (hi : Lib.IsBuffer 133 5 B b bs w) : ∀ g, v.ownBlock = some g → g ≠ b := fun g hg e => by
  subst e
  obtain ⟨_, c, hc⟩ := h.kind g hg
  obtain ⟨_, u, lr, hu, _⟩ := hi
  rw [hc] at hu
  injection hu with hu
  injection hu with _ h2 _
  exact absurd h2 (by decide)
theorem OwnS.ne_iter {base k : Nat} {w : World} {v : Value} {ls : List (List UInt8)} {s : ByteArray} {pos : Nat} (h : OwnS base w v ls) (hi : w.heap[k]? = some (.stringIter s pos)) : some k ≠ v.ownBlock := fun e => by
  obtain ⟨_, c, hc⟩ := h.kind k e.symm
  rw [hc] at hi
  cases hi
/-- A buffer stays where a row of texts is written. -/
theorem buf_grown {base B b : Nat} {w w' : World} {v : Value} {ls : List (List UInt8)} {bs : List Value} (h : OwnS base w v ls) (hi : Lib.IsBuffer 133 5 B b bs w) (hg : w.grownBy w' v.ownBlock) : Lib.IsBuffer 133 5 B b bs w' := by
  have hne := h.ne_buf hi
  have hlt := hi.lt
  obtain ⟨hB, u, lr, hu, ho, hn⟩ := hi
  refine ⟨hB, u, lr, (hg.block b hlt (fun e => hne b e.symm rfl)).trans hu, ho.kept hg ?_, hn⟩
  cases hub : u.ownBlock with
  | none => exact .inl rfl
  | some g =>
    refine .inr fun e => ?_
    obtain ⟨c, fz, hc⟩ := Lib.ownsRow_kind ho g hub
    obtain ⟨_, c2, hc2⟩ := h.kind g e.symm
    rw [hc] at hc2
    injection hc2 with h1
    injection h1 with _ h2 _
    exact absurd h2 (by decide)
theorem cat_nl {l : List UInt8} {z : ByteArray} (h : (⟨l.toArray⟩ : ByteArray) = z) : (z ++ ({ data := #[10] } : ByteArray)).data.toList = l ++ [10] := by
  subst h
  rw [ByteArray.data_append, Array.toList_append]
/-- What one character does to the lines. -/
theorem step_cut {s : ByteArray} {pos f : Nat} (h : Lib.runesFrom s (f + 1) pos = s.data.toList.drop pos) (hp : pos < s.size) (hf : s.size ≤ pos + (f + 1)) :
    ((Utf8.decode s pos).1 = 10 → cutS (s.data.toList.take (pos + (Utf8.decode s pos).2)) = ((cutS (s.data.toList.take pos)).1 ++ [(cutS (s.data.toList.take pos)).2 ++ [10]], []) ∧ Lib.encodeRune ((Utf8.decode s pos).1 : Int) = [10]) ∧
    ((Utf8.decode s pos).1 ≠ 10 → cutS (s.data.toList.take (pos + (Utf8.decode s pos).2)) = ((cutS (s.data.toList.take pos)).1, (cutS (s.data.toList.take pos)).2 ++ Lib.encodeRune ((Utf8.decode s pos).1 : Int))) ∧
    Lib.runesFrom s f (pos + (Utf8.decode s pos).2) = s.data.toList.drop (pos + (Utf8.decode s pos).2) ∧ pos + (Utf8.decode s pos).2 ≤ s.size := by
  obtain ⟨h1, h2⟩ := chunk h hp hf
  have ht : s.data.toList.take (pos + (Utf8.decode s pos).2) = s.data.toList.take pos ++ Lib.encodeRune ((Utf8.decode s pos).1 : Int) := by rw [List.take_add, h1]
  obtain ⟨e1, e2⟩ := enc_ten (Utf8.decode s pos).1
  refine ⟨fun hr => ?_, fun hr => ?_, h2, (enc_width hp).2⟩
  · refine ⟨?_, e1 hr⟩
    rw [ht, e1 hr, cutS_newline]
  · rw [ht, cutS_plain _ _ (e2 hr)]
set_option maxHeartbeats 6400000 in
set_option maxRecDepth 1000000 in
theorem buildSource_any (fn s : ByteArray) (hs : s.size ≤ 400) (hu : Lib.runesFrom s s.size 0 = s.data.toList) (w : World) :
    Calls Tryd.prog 22 #[.string fn, .string s] w fun e w' => (∃ (sb : Nat) (v : Value), e = .returned (.pointer (some ⟨sb, 0, none⟩)) ∧ w'.heap[sb]? = some (.cells #[.string fn, v] 59) ∧ StrRow w' v (cutL s.data.toList)) ∧ Below w.heap.size w w' := by
  have HU := Lib.hid hu; clear hu
  have HLEN := Lib.hid (show s.data.toList.length = s.size from (Lib.size_eq s).symm)
  go_enter Tryd.func22, Tryd.ntmps22
  go_wp2
  go_loopw [5] (fun v wr => ∃ (pos f : Nat), pos ≤ s.size ∧ Lib.IsBuffer 133 5 w.heap.size w.heap.size (Lib.byteCells (cutS (s.data.toList.take pos)).2) wr ∧ wr.heap[w.heap.size + 1]? = some (.stringIter s pos) ∧ Below w.heap.size w wr ∧ OwnS w.heap.size wr v (cutS (s.data.toList.take pos)).1 ∧ Lib.runesFrom s f pos = s.data.toList.drop pos ∧ s.size ≤ pos + f) (fun _ wr => s.size - wr.iterPos (w.heap.size + 1))
  case atStart =>
    refine ⟨0, s.size, Nat.zero_le _, (Lib.fresh_isBuffer 133 5 w).alloc _, ?_, ((Below.refl _ w).alloc (Nat.le_refl _) _).alloc (by simp) _, OwnS.nil _ _, HU.out, by omega⟩
    have := World.iter_heap (w.alloc (.cells #[.slice none 0 0, .int .i64 0, .int .i8 0] 133)) s 0
    simpa using this
  case round =>
    obtain ⟨pos, f, hps, hI, hit, hbw, hO, hrf, hfu⟩ := hrel
    have hsz : w.heap.size + 1 < wr.heap.size := lt_of_block hit
    have hcl := cutS_len (s.data.toList.take pos)
    have htl : (s.data.toList.take pos).length ≤ 400 := by rw [List.length_take, HLEN.out]; omega
    obtain ⟨L, hL⟩ : ∃ L, (cutS (s.data.toList.take pos)).1.length = L := ⟨_, rfl⟩
    obtain ⟨M, hM⟩ : ∃ M, (cutS (s.data.toList.take pos)).2.length = M := ⟨_, rfl⟩
    have hLM : L + M ≤ 400 := by omega
    have HL := Lib.hid hL; have HM := Lib.hid hM; clear hL hM hcl htl
    have hit0 := hit
    have HO := Lib.hid hO; have HB := Lib.hid hbw; have HRF := Lib.hid hrf; clear hO hrf
    by_cases hp : pos < s.size
    · have hnx : ∀ ty, (Instr.next (.pointer (some ⟨w.heap.size + 1, 0, none⟩)) true ty).run Tryd.prog wr = _ := fun ty => Lib.run_next_any_at wr (w.heap.size + 1) s pos ty hit hp
      obtain ⟨f, rfl⟩ : ∃ g, f = g + 1 := ⟨f - 1, by omega⟩
      have hwd := Lib.width_pos s pos
      have hd1 := decode_le s pos
      have HST := Lib.hid (step_cut HRF.out hp hfu)
      have HI2 := Lib.hid (hI.iterAt hit (pos + (Utf8.decode s pos).2))
      have HIT2 := Lib.hid (Lib.iterAt_heap wr (w.heap.size + 1) s pos (pos + (Utf8.decode s pos).2) hit)
      have HBW2 := Lib.hid (Lib.below_iterAt hbw (k := w.heap.size + 1) (by omega) s (pos + (Utf8.decode s pos).2))
      have hsz2 : w.heap.size ≤ (wr.iterAt (w.heap.size + 1) s (pos + (Utf8.decode s pos).2)).heap.size := by rw [Lib.iterAt_size]; omega
      have HO2 := Lib.hid (show OwnS w.heap.size (wr.iterAt (w.heap.size + 1) s (pos + (Utf8.decode s pos).2)) u5 (cutS (s.data.toList.take pos)).1 from ownsRow_keep HO.out fun g hg => Lib.iterAt_other wr (w.heap.size + 1) g s _ (fun e => HO.out.ne_iter hit (by rw [hg, e])))
      go_wp2_with (go_at_call 33; refine (Tryd.Buffer_WriteRune_k w.heap.size w.heap.size _ _ (by omega) (by omega) _ HI2.out hsz2 (Lib.byteCells_one _) (by rw [Lib.byteCells_length, HM.out]; omega)).mono ?_; rintro e W1 ⟨rfl, h1, b1, k1⟩; refine Hid.out ?_)
      refine Lib.hid ?_
      have HI3 := Lib.hid h1
      have HIT3 := Lib.hid (k1.iter HIT2.out (by omega))
      have HB3 := Lib.hid (HBW2.out.trans b1)
      have HO3 := Lib.hid (HO2.out.others k1 (HO2.out.ne_buf HI2.out))
      have HST := Lib.hid HST.out
      clear h1 b1 k1 HO2 HBW2 HIT2 HI2 hI hit hbw
      by_cases hr : (Utf8.decode s pos).1 = 10
      · have d : (((Utf8.decode s pos).1 : Int) == 10) = true := by rw [hr]; rfl
        have HC := Lib.hid (HST.out.1 hr)
        have HBY := Lib.hid (show Lib.byteCells (cutS (s.data.toList.take pos)).2 ++ Lib.runeCells ((Utf8.decode s pos).1 : Int) = Lib.byteCells ((cutS (s.data.toList.take pos)).2 ++ [10]) from by rw [← Lib.byteCells_encodeRune, HC.out.2, Lib.byteCells_append])
        have HI4 := Lib.hid (show Lib.IsBuffer 133 5 w.heap.size w.heap.size (Lib.byteCells ((cutS (s.data.toList.take pos)).2 ++ [10])) W1 from by rw [← HBY.out]; exact HI3.out)
        clear hr HI3
        obtain ⟨z, hz⟩ : ∃ z : ByteArray, (⟨((cutS (s.data.toList.take pos)).2 ++ [10]).toArray⟩ : ByteArray) = z := ⟨_, rfl⟩
        have HZ := Lib.hid hz; clear hz
        go_wp2_with (go_at_call 34; refine (Tryd.Buffer_String w.heap.size w.heap.size _ W1 HI4.out).mono ?_; rintro e W2 ⟨he, n, hW⟩; rw [HZ.out] at he; subst he; have HW := Lib.hid hW; clear hW; refine Hid.out ?_)
        refine Lib.hid ?_
        have HI5 := Lib.hid (show Lib.IsBuffer 133 5 w.heap.size w.heap.size (Lib.byteCells ((cutS (s.data.toList.take pos)).2 ++ [10])) (W2.alloc (.cells #[.string z] 9)) from by have hW := HW.out; subst hW; exact (HI4.out.drewN n).alloc _)
        have ho5 : OwnS w.heap.size W2 u5 (cutS (s.data.toList.take pos)).1 := by have hW := HW.out; subst hW; exact HO3.out
        have hb5 : Below w.heap.size w W2 := by have hW := HW.out; subst hW; exact HB3.out.trans ⟨rfl, rfl, rfl, Nat.le_refl _, fun _ _ => rfl⟩
        have hit5 : W2.heap[w.heap.size + 1]? = some (.stringIter s (pos + (Utf8.decode s pos).2)) := by have hW := HW.out; subst hW; exact HIT3.out
        have HO5 := Lib.hid (ho5.bel (below_alloc1 W2 (.cells #[.string z] 9)))
        have HB5 := Lib.hid (hb5.alloc hb5.size (.cells #[.string z] 9))
        have HIT5 := Lib.hid ((Below.heap_alloc W2 (.cells #[.string z] 9) _ (lt_of_block hit5)).trans hit5)
        clear HW ho5 hb5 hit5 HI4 HO3 HB3 HIT3
        go_wp2_with (at_builtin; (refine str_append HO5.out (src := W2.heap.size) (cp := 1) (src_of W2 HZ.out.symm) (by rw [HL.out]; omega) HB5.out.size rfl (.tmp 19) (.tmp 21) rfl rfl rfl ?_; intro g cap1 W3 hown hgrow; refine Hid.out ?_))
        refine Lib.hid ?_
        have HI6 := Lib.hid (buf_grown HO5.out HI5.out hgrow)
        have HIT6 := Lib.hid ((hgrow.block _ (lt_of_block HIT5.out) (HO5.out.ne_iter HIT5.out)).trans HIT5.out)
        have HB6 := Lib.hid (HB5.out.grown hgrow HB5.out.size (fun k hk => (HO5.out.kind k hk).1))
        have HO6 := Lib.hid hown
        clear hown hgrow HI5 HO5 HB5 HIT5
        go_wp2_with (go_at_call 35; refine (Tryd.Buffer_Reset_k w.heap.size w.heap.size _ W3 HI6.out).mono ?_; rintro e W4 ⟨rfl, h4, b4, k4⟩; refine Hid.out ?_)
        refine Lib.hid ?_
        have HI7 := Lib.hid h4
        have HIT7 := Lib.hid (k4.iter HIT6.out (by omega))
        have HB7 := Lib.hid (HB6.out.trans b4)
        have HO7 := Lib.hid (HO6.out.others k4 (HO6.out.ne_buf HI6.out))
        clear h4 b4 k4 HI6 HIT6 HB6 HO6
        go_wp2
        go_roundw
        case rel =>
          refine ⟨pos + (Utf8.decode s pos).2, f, HST.out.2.2.2, ?_, HIT7.out, HB7.out, ?_, HST.out.2.2.1, by omega⟩
          · rw [HC.out.1]; exact HI7.out
          · rw [HC.out.1]; exact HO7.out
        case measure =>
          simp only [World.iterPos, HIT7.out, hit0]
          omega
      · have d : (((Utf8.decode s pos).1 : Int) == 10) = false := by rw [beq_eq_false_iff_ne]; omega
        have HC := Lib.hid (HST.out.2.1 hr)
        clear hr
        go_wp2
        go_roundw
        case rel =>
          refine ⟨pos + (Utf8.decode s pos).2, f, HST.out.2.2.2, ?_, HIT3.out, HB3.out, ?_, HST.out.2.2.1, by omega⟩
          · rw [HC.out, Lib.byteCells_append, Lib.byteCells_encodeRune]; exact HI3.out
          · rw [HC.out]; exact HO3.out
        case measure =>
          simp only [World.iterPos, HIT3.out, hit0]
          omega
    · have hpe : pos = s.size := by omega
      have hnx : ∀ ty, (Instr.next (.pointer (some ⟨w.heap.size + 1, 0, none⟩)) true ty).run Tryd.prog wr = _ := fun ty => Lib.run_next_end_at wr (w.heap.size + 1) s pos ty hit hp
      have HI2 := Lib.hid hI
      have HALL := Lib.hid (show s.data.toList.take pos = s.data.toList from by rw [hpe]; exact List.take_of_length_le (Nat.le_of_eq HLEN.out))
      clear hI hit0 hpe
      obtain ⟨z, hz⟩ : ∃ z : ByteArray, (⟨((cutS (s.data.toList.take pos)).2).toArray⟩ : ByteArray) = z := ⟨_, rfl⟩
      have hz2 : z.size ≤ 400 := by
        rw [← hz, Lib.size_eq]
        have := HM.out
        simp
        omega
      have HZ := Lib.hid hz; clear hz
      go_wp2_with (go_at_call 34; refine (Tryd.Buffer_String w.heap.size w.heap.size _ wr HI2.out).mono ?_; rintro e W2 ⟨he, n, hW⟩; rw [HZ.out] at he; subst he; have HW := Lib.hid hW; clear hW; refine Hid.out ?_)
      refine Lib.hid ?_
      have ho5 : OwnS w.heap.size W2 u5 (cutS (s.data.toList.take pos)).1 := by have hW := HW.out; subst hW; exact HO.out
      have hb5 : Below w.heap.size w W2 := by have hW := HW.out; subst hW; exact HB.out.trans ⟨rfl, rfl, rfl, Nat.le_refl _, fun _ _ => rfl⟩
      have HO5 := Lib.hid ho5
      have HB5 := Lib.hid hb5
      clear HW ho5 hb5 HO HB hbw HI2 hit hnx
      have hz3 : ¬ (9223372036854775807 < z.size + 1) := by omega
      go_wp2_with (at_builtin; refine str_append (HO5.out.bel (below_alloc1 W2 (.cells #[.string _] 9))) (src := W2.heap.size) (cp := 1) (src_of W2 (bytes_of (cat_nl HZ.out))) (by rw [HL.out]; omega) (by have := HB5.out.size; simp; omega) rfl (.tmp 25) (.tmp 28) rfl rfl rfl ?_; intro g cap1 W3 hown hgrow; refine Hid.out ?_)
      refine Lib.hid ?_
      have HB6 := Lib.hid ((HB5.out.alloc HB5.out.size _).grown hgrow (by have := HB5.out.size; simp; omega) (fun k hk => (HO5.out.kind k hk).1))
      have HO6 := Lib.hid hown
      clear hown hgrow HO5 HB5
      go_wp2
      go_ret
      refine ⟨⟨W3.heap.size, _, rfl, heap_alloc_new _ _, ?_⟩, HB6.out.alloc HB6.out.size _⟩
      rw [show cutL s.data.toList = (cutS (s.data.toList.take pos)).1 ++ [(cutS (s.data.toList.take pos)).2 ++ [10]] from by rw [HALL.out]; rfl]
      exact (HO6.out.row (by simp)).bel (below_alloc1 _ _)
end Go.Proofs.YthppionkcfkafaaDoor
