/-
  The passes' own methods at arrays and calls. Conditions: what Visit does at the nodes below.
-/
import Derived.Test.YtlgajopaokjjaaaGreatFmtBase
namespace Go.Proofs.YtlgajopaokjjaaaGreatFmt
open Go.ChangeShapes Go.WideShapes Go.ChangeAt Go.RowKit Go.Joins
set_option maxRecDepth 100000 in
set_option maxHeartbeats 1000000 in
theorem base_array {fV : FuncId} {yp TP : TypeId} {cb : Nat} (P : PassVisits fV yp TP cb) (F : Tr → Tr) (r : Value) {w : World} {S : Nat → Prop} {SS : Nat → Nat → Prop} {b g cap : Nat} {cur : Array Value} {p0 p1 p2 : Option Addr} {n0 n1 n2 : Nat} {tc : Bool} {a : Option Addr} {l : List Tr} {ys bs : Nat → Nat} {ps : Nat → Option Addr} {ns : Nat → Nat} (hl : l.length ≤ 6) (hS : S b)
    (hg : 0 < l.length → a = some ⟨g, 0, none⟩ ∧ S g ∧ g ≠ b ∧ w.heap[g]? = some (.cells cur 84)) (hcap : l.length ≤ cap)
    (hr : ∀ i, i < l.length → cur[i * 2]? = some (.iface (ys i) (.pointer (some ⟨bs i, 0, none⟩))) ∧ cur[i * 2 + 1]? = some (.slice (ps i) 0 (ns i)))
    (ss : ∀ i, i < l.length → ∀ k, SS i k → S k ∧ k ≠ b ∧ k ≠ g) (dd : ∀ i j, i < j → j < l.length → ∀ k, SS i k → ¬ SS j k)
    (hb : w.heap[b]? = some (.cells #[.slice a l.length cap, .slice p2 0 n2, .slice p0 0 n0, .pointer none, .slice p1 0 n1, .pointer none, .string ByteArray.empty, .int .i64 0, .int .i64 0, .int .i64 0, .int .i64 0, .bool tc] 95)) (aa : ∀ i t, l[i]? = some t → Ast w (SS i) t (ys i) (bs i)) (ih : ∀ t ∈ l, VisitOk fV yp TP cb t (F t)) (hp : PassAt TP cb w) (hn : ¬ S cb) :
    Calls Tryz.prog 70 #[r, .iface yp (.pointer (some ⟨cb, 0, none⟩)), .pointer (some ⟨b, 0, none⟩), .nilIface] w fun e w' => Noded w S (.mk 18 ByteArray.empty 0 false (l.map F)) 93 b e w' := by
  have zb := heap_lt hb
  have x0 := cell_of (j := 0) hb rfl
  have x1 := cell_of (j := 1) hb rfl
  have hbc : b ≠ cb := fun e => hn (e ▸ hS)
  have HP := Lib.hid hp; have PP := Lib.hid P; have m3 := P.visit0; have m4 := P.fodder0; have m5 := P.enter
  have HB := Lib.hid hb; have HG := Lib.hid hg; have HR := Lib.hid hr; have SD := Lib.hid ss; have DD := Lib.hid dd; have AA := Lib.hid aa; have IH := Lib.hid ih
  clear hb hg hr ss dd aa ih P hp
  by_cases h0 : 0 < l.length
  · obtain ⟨rfl, hSg, hgb, hh⟩ := HG.out h0
    have hgl := heap_lt hh
    have hgc : g ≠ cb := fun e => hn (e ▸ hSg)
    have HH := Lib.hid hh
    clear hh
    go_enter Tryz.func70, Tryz.ntmps70
    go_wp2_with fail
    go_loopw [14] (fun i wr => ∃ (m : Nat) (cu : Array Value) (yn bn lo : Nat → Nat), m ≤ l.length ∧ i = .int .i64 m ∧ Mids w g F l SS ps ns ys bs m wr cu yn bn lo) (fun i _ => l.length - (intOf i).toNat)
    case atStart => exact ⟨0, cur, ys, bs, fun _ => w.heap.size, Nat.zero_le _, rfl, mids_start F SS HH.out HR.out⟩
    case round =>
      obtain ⟨m, cu, yn, bn, lo, hm, rfl, hmid⟩ := hrel
      have hbr := (hmid.within.block b zb (fun hx => by
        rcases hx with hx | ⟨i, hi, hx⟩
        · exact hgb hx.symm
        · exact (SD.out i (by omega) b hx).2.1 rfl)).trans HB.out
      have HPR := Lib.hid ((hmid.within.block cb (heap_lt HP.out) (fun hx => by
        rcases hx with hx | ⟨i, hi, hx⟩
        · exact hgc hx.symm
        · exact hn (SD.out i (by omega) cb hx).1)).trans HP.out)
      have HM := Lib.hid hmid; clear hmid x0 x1
      have x0 := cell_of (j := 0) hbr rfl
      have x1 := cell_of (j := 1) hbr rfl
      have HBR := Lib.hid hbr; clear hbr
      by_cases hml : m < l.length
      · obtain ⟨t0, ht⟩ : ∃ t, l[m]? = some t := ⟨_, List.getElem?_eq_getElem hml⟩
        obtain ⟨hA, hc, hcf⟩ := HM.out.at_ ht (fun i hi k hk => (SD.out i hi k hk).2.2) DD.out AA.out
        have V := Lib.hid ((IH.out t0 (List.mem_of_getElem? ht)).drawn wr (fun k => SS m k ∧ k < w.heap.size) (ys m) (bs m) g (m * 2) cu _ HPR.out (fun h => hn (SD.out m hml cb h.1).1) hgc hA (fun h => (SD.out m hml g h.1).2.2 rfl) HM.out.row hc)
        have HT := Lib.hid ht; have HCF := Lib.hid hcf
        clear hA hc hcf ht
        go_wp2_with fail
        have mv := PP.out.visit wr.drew HPR.out
        go_region_with (first | (refine V.out.mono ?_; rintro e w3 ⟨rfl, y', b', hr3, hg3, ha3⟩) | fail)
        all_goals
          have HN := Lib.hid (HM.out.next HT.out hgl (fun i hi k hk => (SD.out i hi k hk).2.2) DD.out hr3 hg3 ha3)
          have hbr3 := (hg3.block b (heap_lt HBR.out) (fun hx => hx.elim (fun hx => (SD.out m hml b hx.1).2.1 rfl) (fun hx => hgb hx.symm))).trans HBR.out
          clear x0 x1
          have x0 := cell_of (j := 0) hbr3 rfl
          have f := cell_of (j := m * 2 + 1) hr3 (by rw [Array.getElem?_setIfInBounds_ne (by omega)]; exact HCF.out)
          have HP3 := Lib.hid ((hg3.block cb (heap_lt HPR.out) (fun hx => hx.elim (fun hx => hn (SD.out m hml cb hx.1).1) (fun hx => hgc hx.symm))).trans HPR.out)
          clear hr3 hg3 ha3 hbr3 mv
          have mf := PP.out.fodder w3.drew HP3.out
          go_wp2_with fail
          go_region_with (first | (refine (fodder_drawn _ _ f).mono ?_; rintro e w4 ⟨rfl, rfl⟩) | fail)
          all_goals
            clear f mf
            go_wp2
            go_roundw
            case rel => exact ⟨m + 1, _, _, _, _, by omega, by go_num, HN.out.drew⟩
            case measure => simp [intOf]; omega
      · obtain rfl : m = l.length := by omega
        go_wp2_with fail
        have mf := PP.out.fodder wr.drew HPR.out
        go_region_with (first | (refine (fodder_drawn _ _ x1).mono ?_; rintro e w4 ⟨rfl, rfl⟩) | fail)
        go_wp2
        go_end0
        obtain ⟨e1, e2⟩ := array_end hS hSg hgb hgl hcap SD.out DD.out HB.out HM.out
        exact (show Noded _ _ _ _ _ _ _ from ⟨rfl, e1, e2⟩).drew
  · obtain rfl : l = [] := List.eq_nil_of_length_eq_zero (by omega)
    simp only [List.length_nil] at x0
    go_enter Tryz.func70, Tryz.ntmps70
    go_wp2_with fail
    go_loopw [14] (fun i wr => i = .int .i64 0 ∧ wr = w) (fun _ _ => 0)
    case atStart => exact ⟨rfl, rfl⟩
    case round =>
      obtain ⟨rfl, rfl⟩ := hrel
      go_wp2_with fail
      have mf := PP.out.fodder wr.drew HP.out
      go_region_with (first | (refine (fodder_drawn _ _ x1).mono ?_; rintro e w4 ⟨rfl, rfl⟩) | fail)
      go_wp2
      go_end0
      exact (show Noded wr S (.mk 18 ByteArray.empty 0 false (([] : List Tr).map F)) 93 b (.returned (.tuple #[])) wr from ⟨rfl, Within.refl _ _, .array b g cur p0 p1 p2 n0 n1 n2 cap tc a (.inr ⟨hS, zb⟩) (fun h => absurd h (by simp)) (Nat.zero_le _) (fun i h => absurd h (by simp)) (SS := fun _ _ => False) (fun i h => absurd h (by simp)) (fun i j _ h => absurd h (by simp)) HB.out (ys := ys) (bs := bs) (ps := ps) (ns := ns) (fun i t h => by simp at h)⟩).drew
end Go.Proofs.YtlgajopaokjjaaaGreatFmt
