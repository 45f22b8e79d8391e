/-
  (*EnforceStringStyle).LiteralString at a fine text between quotes. Conditions: its length.
-/
import Derived.Test.YtceepfnjdkfjnaaFmtStrEsc
import Derived.Test.YtceepfnjdkfjnaaFmtStrParse
import Derived.Test.YtceepfnjdkfjnaaFmtLawsTree
import Derived.Test.YtceepfnjdkfjnaaFmtCloneDef
namespace Go.Proofs.YtceepfnjdkfjnaaFmt
open Go.ChangeShapes Go.WideShapes Go.ChangeAt Go.RowKit Go.Joins Go.Extern.Stop Go.Stop Go.Extern

theorem loc_any (b k : Nat) (w : World) : Calls Tryf.prog 26 #[.pointer (some ⟨b, k, none⟩)] w fun e w' => e = .returned (.pointer (some ⟨b, k + 3, none⟩)) ∧ w = w' := by
  go_enter Tryf.func26, Tryf.ntmps26
  go_wp2
  go_ret
  exact ⟨rfl, rfl⟩
/-- What becomes of a text and its kind. -/
def Styled (st kd : Int) (v : ByteArray) (cs : List Nat) (kd' : Int) (v' : ByteArray) : Prop :=
  (39 ∈ cs ∧ 34 ∈ cs → kd' = kd ∧ v' = v) ∧
  (39 ∈ cs ∧ 34 ∉ cs → kd' = 1 ∧ v' = bs (escL false cs)) ∧
  (39 ∉ cs ∧ 34 ∈ cs → kd' = 0 ∧ v' = bs (escL true cs)) ∧
  (39 ∉ cs ∧ 34 ∉ cs → kd' = 1 - st ∧ v' = bs (escL (st == 1) cs))
set_option maxHeartbeats 8000000 in
set_option maxRecDepth 1000000 in
theorem literal_any (F : Interp) (st kd : Int) (hst : st = 0 ∨ st = 1) (hkd : kd = 0 ∨ kd = 1) (v : ByteArray) (hs : v.size ≤ 400) (hv : Val v.data.toList) (hf : (unL v.data.toList).1 = 1) (cs : List Nat) (hcs : ∀ r ∈ cs, Sc r) (hsay : (unL v.data.toList).2 = cs.flatMap enc) (hlen : (unL v.data.toList).2.length ≤ 400)
    (cb lb : Nat) (p ctx : Value) (w : World) (hc : w.cell? ⟨cb, 2, none⟩ = some (.int .i64 st)) (hl : w.heap[lb]? = some (.cells #[.string v, .string ByteArray.empty, .string ByteArray.empty, .slice none 0 0, .pointer none, .slice none 0 0, .pointer none, .string ByteArray.empty, .int .i64 0, .int .i64 0, .int .i64 0, .int .i64 0, .int .i64 kd] 70))
    (hF : F.told.answers w.tape) (HT0 : Lib.Utf8Tabs 0 1 w) (HE0 : ∃ ev, w.cell? ⟨3, 0, none⟩ = some ev) :
    Calls Tryf.prog 19 #[.pointer (some ⟨cb, 0, none⟩), p, .pointer (some ⟨lb, 0, none⟩), ctx] w fun e w' => e = .returned (.tuple #[]) ∧
      (∃ kd' v', w'.heap[lb]? = some (.cells #[.string v', .string ByteArray.empty, .string ByteArray.empty, .slice none 0 0, .pointer none, .slice none 0 0, .pointer none, .string ByteArray.empty, .int .i64 0, .int .i64 0, .int .i64 0, .int .i64 0, .int .i64 kd'] 70) ∧ Styled st kd v cs kd' v') ∧ w.grownBy w' (some lb) := by
  have x0 := cell_of (j := 0) hl rfl
  have x12 := cell_of (j := 12) hl rfl
  have HL := Lib.hid hl
  have HV := Lib.hid hv; have HF := Lib.hid hf; have HCS := Lib.hid hcs; have HSAY := Lib.hid hsay; have HLEN := Lib.hid hlen
  have HT := Lib.hid HT0; have HE := Lib.hid HE0; have HFF := Lib.hid hF
  have zl := heap_lt' hl
  have KEEP := Lib.hid (fun (w' : World) (h : Stay w w') => (show w'.cell? ⟨lb, 0, none⟩ = some (.string v) from (h.2 _ _ (World.block_lt_of_cell? w _ x0)).trans x0))
  have k2 : (kd == 2) = false := by rcases hkd with rfl | rfl <;> rfl
  have k3 : (kd == 3) = false := by rcases hkd with rfl | rfl <;> rfl
  have k4 : (kd == 4) = false := by rcases hkd with rfl | rfl <;> rfl
  clear hl hv hf hcs hsay hlen HT0 HE0 hF
  go_enter Tryf.func19, Tryf.ntmps19
  go_upto_region 3 with fail
  go_region_held_law (fun w' => w'.cell? ⟨lb, 0, none⟩ = some (.string v))
    ((refine KEEP.out _ ?_; repeat (first | with_reducible exact K2.out | with_reducible exact K1.out | with_reducible exact stay_of (Below.refl _ _) | with_reducible refine stay_drew ?_ | with_reducible refine stay_alloc ?_ _)))
    (first
      | (refine step_call (by rfl) (loc_any lb 3 _) ?_ ?_; (focus (go_simp; done)); rintro e w4 ⟨rfl, rfl⟩; refine ⟨_, rfl, ?_⟩)
      | (refine step_call (by rfl) (parse_any (.pointer (some ⟨lb, 3 + 3, none⟩)) v hs HV.out HF.out w.drew HT.out HE.out) ?_ ?_; (focus (go_simp; done)); rintro e w5 ⟨rfl, hb5⟩; refine ⟨_, rfl, ?_⟩; have K1 := Lib.hid (show Stay w w5 from stay_step (stay_drew (stay_of (Below.refl _ _))) hb5); clear hb5))
  have hb5 := K1.out.1
  have HC5 := Lib.hid (keep_cell hb5 hc)
  have HL5 := Lib.hid ((hb5.block lb zl).trans HL.out)
  have HT5 := Lib.hid (Utf8Tabs_below HT.out hb5)
  have HF5 := Lib.hid (show F.told.answers w5.tape by rw [hb5.tape]; exact HFF.out)
  have HB5 := Lib.hid hb5
  have zs := hb5.size
  generalize hX : bs (unL v.data.toList).2 = X
  have HX := Lib.hid (show X.data.toList = cs.flatMap enc by rw [← hX, ← HSAY.out]; simp [bs])
  have hXs : X.size ≤ 400 := by rw [← hX, bs_size]; exact HLEN.out
  clear hb5 x0 x12 hc hX
  go_wp2
  go_loopw [10, 11] (fun a b wr => ∃ (pos n1 n2 : Nat) (c1 c2 : List Nat), pos ≤ X.size ∧ a = .int .i64 n1 ∧ b = .int .i64 n2 ∧ n1 ≤ pos ∧ n2 ≤ pos ∧ cs = c1 ++ c2 ∧ X.data.toList.drop pos = c2.flatMap enc ∧ (0 < n1 ↔ 39 ∈ c1) ∧ (0 < n2 ↔ 34 ∈ c1) ∧ wr.heap[w5.heap.size]? = some (.stringIter X pos) ∧ Below w5.heap.size w5 wr) (fun _ _ wr => X.size - wr.iterPos w5.heap.size)
  case atStart => exact ⟨0, 0, 0, [], cs, Nat.zero_le _, rfl, rfl, Nat.le_refl _, Nat.le_refl _, rfl, by simpa using HX.out, by simp, by simp, World.iter_heap w5 X 0, below_alloc1 w5 (.stringIter X 0)⟩
  case round =>
    obtain ⟨pos, n1, n2, c1, c2, hp0, rfl, rfl, hn1, hn2, hcc, hdr, h39, h34, hit, hbw⟩ := hrel
    have HBW := Lib.hid hbw
    have H39 := Lib.hid h39; have H34 := Lib.hid h34
    clear h39 h34
    have hkl : w5.heap.size < wr.heap.size := heap_lt' hit
    by_cases hp : pos < X.size
    · obtain ⟨r, c3, rfl⟩ : ∃ r c3, c2 = r :: c3 := by
        cases c2 with
        | nil => exact absurd hdr (drop_ne hp)
        | cons r c3 => exact ⟨r, c3, rfl⟩
      have hs1 : Sc r := HCS.out r (by rw [hcc]; simp)
      have e0 : X.data.toList.drop pos = enc r ++ c3.flatMap enc := by rw [hdr]; simp
      have hdec : Utf8.decode X pos = (r, (enc r).length) := by rw [← Lib.decodeL_drop, e0, dec_enc hs1]
      have hlen : pos + (enc r).length ≤ X.size := by
        have := congrArg List.length e0
        rw [List.length_drop, ← Lib.size_eq, List.length_append] at this
        omega
      have hle := List.length_pos_iff.2 (enc_ne r)
      have hdt : X.data.toList.drop (pos + (enc r).length) = c3.flatMap enc := by rw [← List.drop_drop, e0, List.drop_left]
      have hnx : ∀ ty, (Instr.next (.pointer (some ⟨w5.heap.size, 0, none⟩)) true ty).run Tryf.prog wr = _ := fun ty => Lib.run_next_any_at wr w5.heap.size X pos ty hit hp
      rw [hdec] at hnx
      obtain ⟨L, hL⟩ : ∃ L, (enc r).length = L := ⟨_, rfl⟩
      rw [hL] at hnx hlen hle hdt
      have HDT := Lib.hid hdt
      have HCC := Lib.hid hcc
      have HIT2 := Lib.hid (Lib.iterAt_heap wr w5.heap.size X pos (pos + L) hit)
      have HB2 := Lib.hid (Lib.below_iterAt HBW.out (k := w5.heap.size) (Nat.le_refl _) X (pos + L))
      have hrm : r ≤ 1114111 := hs1.1
      clear hdec hdt e0 hs1 hL hcc hdr hbw
      by_cases e39 : r = 39
      · have d1 : ((r : Int) == 39) = true := by rw [e39]; rfl
        have d2 : ((r : Int) == 34) = false := by rw [e39]; rfl
        have q39 : 39 ∈ c1 ++ [r] := by simp [e39]
        have q34 : 34 ∈ c1 ++ [r] ↔ 34 ∈ c1 := by simp [e39]
        have Q39 := Lib.hid q39; have Q34 := Lib.hid q34
        clear e39 q39 q34
        go_wp2
        go_roundw
        case rel => exact ⟨pos + L, n1 + 1, n2, c1 ++ [r], c3, hlen, by go_num, by go_num, by omega, by omega, by simpa using HCC.out, HDT.out, ⟨fun _ => Q39.out, fun _ => by omega⟩, by rw [Q34.out]; exact H34.out, HIT2.out, HB2.out⟩
        case measure => simp only [World.iterPos, HIT2.out, hit]; omega
      · have d1 : ((r : Int) == 39) = false := by rw [beq_eq_false_iff_ne]; omega
        have q39 : 39 ∈ c1 ++ [r] ↔ 39 ∈ c1 := by simp [show ¬ 39 = r from fun e => e39 e.symm]
        have Q39 := Lib.hid q39
        clear q39
        by_cases e34 : r = 34
        · have d2 : ((r : Int) == 34) = true := by rw [e34]; rfl
          have Q34 := Lib.hid (show 34 ∈ c1 ++ [r] by simp [e34])
          clear e34 e39
          go_wp2
          go_roundw
          case rel => exact ⟨pos + L, n1, n2 + 1, c1 ++ [r], c3, hlen, rfl, by go_num, by omega, by omega, by simpa using HCC.out, HDT.out, by rw [Q39.out]; exact H39.out, ⟨fun _ => Q34.out, fun _ => by omega⟩, HIT2.out, HB2.out⟩
          case measure => simp only [World.iterPos, HIT2.out, hit]; omega
        · have d2 : ((r : Int) == 34) = false := by rw [beq_eq_false_iff_ne]; omega
          have Q34 := Lib.hid (show 34 ∈ c1 ++ [r] ↔ 34 ∈ c1 by simp [show ¬ 34 = r from fun e => e34 e.symm])
          clear e34 e39
          go_wp2
          go_roundw
          case rel => exact ⟨pos + L, n1, n2, c1 ++ [r], c3, hlen, rfl, rfl, by omega, by omega, by simpa using HCC.out, HDT.out, by rw [Q39.out]; exact H39.out, by rw [Q34.out]; exact H34.out, HIT2.out, HB2.out⟩
          case measure => simp only [World.iterPos, HIT2.out, hit]; omega
    · have hpe : pos = X.size := by omega
      have hc2 : c2 = [] := by
        cases c2 with
        | nil => rfl
        | cons r c3 =>
          rw [hpe, List.drop_eq_nil_of_le (by rw [← Lib.size_eq]; exact Nat.le_refl _)] at hdr
          have := congrArg List.length hdr
          have h3 := List.length_pos_iff.2 (enc_ne r)
          simp at this
          omega
      have hcc2 : cs = c1 := by rw [hcc, hc2, List.append_nil]
      have hnx : ∀ ty, (Instr.next (.pointer (some ⟨w5.heap.size, 0, none⟩)) true ty).run Tryf.prog wr = _ := fun ty => Lib.run_next_end_at wr w5.heap.size X pos ty hit hp
      have G39 := Lib.hid (show 0 < n1 ↔ 39 ∈ cs by rw [hcc2]; exact H39.out)
      have G34 := Lib.hid (show 0 < n2 ↔ 34 ∈ cs by rw [hcc2]; exact H34.out)
      have HLW := Lib.hid ((HBW.out.block lb (heap_lt' HL5.out)).trans HL5.out)
      have HTW := Lib.hid (Utf8Tabs_below HT5.out HBW.out)
      have HFW := Lib.hid (show F.told.answers wr.tape by rw [HBW.out.tape]; exact HF5.out)
      have HBF := Lib.hid (HB5.out.trans (HBW.out.mono HB5.out.size))
      have cw := keep_cell HBW.out HC5.out
      clear hcc hc2 hcc2 hdr hbw hpe hn1 hn2
      have u0 := cell_of (j := 0) HLW.out rfl
      have u12 := cell_of (j := 12) HLW.out rfl
      by_cases m1 : 0 < n1
      · have g1 : (0 : Int) < (n1 : Int) := by omega
        have q1 := Lib.hid (G39.out.1 m1)
        by_cases m2 : 0 < n2
        · have g2 : (0 : Int) < (n2 : Int) := by omega
          have q2 := Lib.hid (G34.out.1 m2)
          clear m1 m2
          go_wp2
          refine bodyPost_ret (results_none rfl _ _ _) rfl ?_
          exact ⟨rfl, ⟨kd, v, HLW.out, ⟨fun _ => ⟨rfl, rfl⟩, fun h => absurd q2.out h.2, fun h => absurd q1.out h.1, fun h => absurd q1.out h.1⟩⟩, ⟨HBF.out.os, HBF.out.tape, HBF.out.output, HBF.out.size, fun k hk _ => HBF.out.block k hk⟩⟩
        have g2 : ¬ (0 : Int) < (n2 : Int) := by omega
        have q2 := Lib.hid (fun h => m2 (G34.out.2 h))
        clear m1 m2
        go_wp2_with fail
        refine (escape_any F false cs HCS.out X hXs HX.out wr HFW.out HTW.out).mono ?_
        rintro e W7 ⟨rfl, hb7⟩
        have HL7 := Lib.hid ((hb7.block lb (heap_lt' HLW.out)).trans HLW.out)
        have HG7 := Lib.hid (HBF.out.trans (hb7.mono HBF.out.size))
        have y0 := cell_of (j := 0) HL7.out rfl
        have y12 := cell_of (j := 12) HL7.out rfl
        have yf := fun i => unfrozen_of_block HL7.out i
        have zl7 := heap_lt' HL7.out
        clear hb7
        go_wp2
        go_end0
        exact ⟨rfl, ⟨1, bs (escL false cs), set_same (set_same HL7.out), ⟨fun h => absurd h.2 q2.out, fun _ => ⟨rfl, rfl⟩, fun h => absurd q1.out h.1, fun h => absurd q1.out h.1⟩⟩, grown_then ⟨HG7.out.os, HG7.out.tape, HG7.out.output, HG7.out.size, fun k hk _ => HG7.out.block k hk⟩ (grown_then (grown_set _ _ _ _) (grown_set _ _ _ _))⟩
      have g1 : ¬ (0 : Int) < (n1 : Int) := by omega
      have q1 := Lib.hid (fun h => m1 (G39.out.2 h))
      by_cases m2 : 0 < n2
      · have g2 : (0 : Int) < (n2 : Int) := by omega
        have q2 := Lib.hid (G34.out.1 m2)
        clear m1 m2
        go_wp2_with fail
        refine (escape_any F true cs HCS.out X hXs HX.out wr HFW.out HTW.out).mono ?_
        rintro e W7 ⟨rfl, hb7⟩
        have HL7 := Lib.hid ((hb7.block lb (heap_lt' HLW.out)).trans HLW.out)
        have HG7 := Lib.hid (HBF.out.trans (hb7.mono HBF.out.size))
        have y0 := cell_of (j := 0) HL7.out rfl
        have y12 := cell_of (j := 12) HL7.out rfl
        have yf := fun i => unfrozen_of_block HL7.out i
        have zl7 := heap_lt' HL7.out
        clear hb7
        go_wp2
        go_end0
        exact ⟨rfl, ⟨0, bs (escL true cs), set_same (set_same HL7.out), ⟨fun h => absurd h.1 q1.out, fun h => absurd h.1 q1.out, fun _ => ⟨rfl, rfl⟩, fun h => absurd q2.out h.2⟩⟩, grown_then ⟨HG7.out.os, HG7.out.tape, HG7.out.output, HG7.out.size, fun k hk _ => HG7.out.block k hk⟩ (grown_then (grown_set _ _ _ _) (grown_set _ _ _ _))⟩
      have g2 : ¬ (0 : Int) < (n2 : Int) := by omega
      have q2 := Lib.hid (fun h => m2 (G34.out.2 h))
      clear m1 m2
      rcases hst with rfl | rfl
      · skip
        go_wp2_with fail
        refine (escape_any F false cs HCS.out X hXs HX.out wr HFW.out HTW.out).mono ?_
        rintro e W7 ⟨rfl, hb7⟩
        have HL7 := Lib.hid ((hb7.block lb (heap_lt' HLW.out)).trans HLW.out)
        have HG7 := Lib.hid (HBF.out.trans (hb7.mono HBF.out.size))
        have y0 := cell_of (j := 0) HL7.out rfl
        have y12 := cell_of (j := 12) HL7.out rfl
        have yf := fun i => unfrozen_of_block HL7.out i
        have zl7 := heap_lt' HL7.out
        clear hb7
        go_wp2
        go_end0
        exact ⟨rfl, ⟨1, bs (escL false cs), set_same (set_same HL7.out), ⟨fun h => absurd h.1 q1.out, fun h => absurd h.1 q1.out, fun h => absurd h.2 q2.out, fun _ => ⟨rfl, rfl⟩⟩⟩, grown_then ⟨HG7.out.os, HG7.out.tape, HG7.out.output, HG7.out.size, fun k hk _ => HG7.out.block k hk⟩ (grown_then (grown_set _ _ _ _) (grown_set _ _ _ _))⟩
      · skip
        go_wp2_with fail
        refine (escape_any F true cs HCS.out X hXs HX.out wr HFW.out HTW.out).mono ?_
        rintro e W7 ⟨rfl, hb7⟩
        have HL7 := Lib.hid ((hb7.block lb (heap_lt' HLW.out)).trans HLW.out)
        have HG7 := Lib.hid (HBF.out.trans (hb7.mono HBF.out.size))
        have y0 := cell_of (j := 0) HL7.out rfl
        have y12 := cell_of (j := 12) HL7.out rfl
        have yf := fun i => unfrozen_of_block HL7.out i
        have zl7 := heap_lt' HL7.out
        clear hb7
        go_wp2
        go_end0
        exact ⟨rfl, ⟨0, bs (escL true cs), set_same (set_same HL7.out), ⟨fun h => absurd h.1 q1.out, fun h => absurd h.1 q1.out, fun h => absurd h.2 q2.out, fun _ => ⟨rfl, rfl⟩⟩⟩, grown_then ⟨HG7.out.os, HG7.out.tape, HG7.out.output, HG7.out.size, fun k hk _ => HG7.out.block k hk⟩ (grown_then (grown_set _ _ _ _) (grown_set _ _ _ _))⟩
end Go.Proofs.YtceepfnjdkfjnaaFmt
