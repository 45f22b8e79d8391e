/-
  The passes' own methods at calls. Conditions: what Visit does at the nodes below.
-/
import Derived.Test.YtlgajopaokjjaaaGreatFmtBase
namespace Go.Proofs.YtlgajopaokjjaaaGreatFmt
open Go.ChangeShapes Go.WideShapes Go.ChangeAt Go.RowKit Go.Joins
set_option maxRecDepth 100000 in
set_option maxHeartbeats 1000000 in
/-- The list of arguments. -/
theorem base_arguments {fV : FuncId} {yp TP : TypeId} {cb : Nat} (P : PassVisits fV yp TP cb) (F : Tr → Tr) (r : Value) {w : World} {SS : Nat → Nat → Prop} {b g cap y1 b1 : Nat} {cur : Array Value} {p0 p1 p2 p3 p4 p5 : Option Addr} {n0 n1 n2 n3 n4 n5 : Nat} {tc : Bool} {l : List Tr} {ys bs : Nat → Nat} {ps : Nat → Option Addr} {ns : Nat → Nat} (hl : l.length ≤ 5) (h0 : 0 < l.length) (hgb : g ≠ b)
    (hh : w.heap[g]? = some (.cells cur 84))
    (hr : ∀ i, i < l.length → cur[i * 2]? = some (.iface (ys i) (.pointer (some ⟨bs i, 0, none⟩))) ∧ cur[i * 2 + 1]? = some (.slice (ps i) 0 (ns i)))
    (ss : ∀ i, i < l.length → ∀ k, SS i k → k ≠ b ∧ k ≠ g) (dd : ∀ i j, i < j → j < l.length → ∀ k, SS i k → ¬ SS j k) {a : Option Addr} (ha : a = some ⟨g, 0, none⟩)
    (hb : w.heap[b]? = some (.cells #[.iface y1 (.pointer (some ⟨b1, 0, none⟩)), .slice p2 0 n2, .slice a l.length cap, .slice p3 0 n3, .slice p4 0 n4, .slice p5 0 n5, .slice p0 0 n0, .pointer none, .slice p1 0 n1, .pointer none, .string ByteArray.empty, .int .i64 0, .int .i64 0, .int .i64 0, .int .i64 0, .bool tc, .bool false] 82)) (aa : ∀ i t, l[i]? = some t → Ast w (SS i) t (ys i) (bs i)) (ih : ∀ t ∈ l, VisitOk fV yp TP cb t (F t)) (hp : PassAt TP cb w) (hgc : g ≠ cb) (hnn : ∀ i, i < l.length → ¬ SS i cb) (_hbc : b ≠ cb) :
    Calls Tryz.prog 100 #[r, .iface yp (.pointer (some ⟨cb, 0, none⟩)), .pointer (some ⟨b, 1, none⟩), .pointer (some ⟨b, 2, none⟩), .pointer (some ⟨b, 4, none⟩), .nilIface] w fun e w' => e = .returned (.tuple #[]) ∧ ∃ cu yn bn lo, Mids w g F l SS ps ns ys bs l.length w' cu yn bn lo := by
  subst ha
  have zb := heap_lt hb
  have hgl := heap_lt hh
  have x1 := cell_of (j := 1) hb rfl
  have x2 := cell_of (j := 2) hb rfl
  have HP := Lib.hid hp; have PP := Lib.hid P; have m2 := P.fodder w hp; have m3 := P.visit0; have m4 := P.fodder0; have m5 := P.enter
  have HB := Lib.hid hb; have HR := Lib.hid hr; have SD := Lib.hid ss; have DD := Lib.hid dd; have AA := Lib.hid aa; have IH := Lib.hid ih; have HH := Lib.hid hh
  clear hb hr ss dd aa ih P hh hp
  go_enter Tryz.func100, Tryz.ntmps100
  go_wp2_with fail
  refine (fodder_any _ _ x1).mono ?_
  rintro e w0 ⟨rfl, rfl⟩
  go_wp2_with fail
  go_loopw [26] (fun i wr => ∃ (m : Nat) (cu : Array Value) (yn bn lo : Nat → Nat), m ≤ l.length ∧ i = .int .i64 m ∧ Mids w g F l SS ps ns ys bs m wr cu yn bn lo) (fun i _ => l.length - (intOf i).toNat)
  case atStart => exact ⟨0, cur, ys, bs, fun _ => w.heap.size, Nat.zero_le _, rfl, mids_start F SS HH.out HR.out⟩
  case round =>
    obtain ⟨m, cu, yn, bn, lo, hm, rfl, hmid⟩ := hrel
    have hbr := (hmid.within.block b zb (fun hx => by
      rcases hx with hx | ⟨i, hi, hx⟩
      · exact hgb hx.symm
      · exact (SD.out i (by omega) b hx).1 rfl)).trans HB.out
    have HPR := Lib.hid ((hmid.within.block cb (heap_lt HP.out) (fun hx => by
      rcases hx with hx | ⟨i, hi, hx⟩
      · exact hgc hx.symm
      · exact hnn i (by omega) hx)).trans HP.out)
    have HM := Lib.hid hmid; clear hmid x1 x2
    have x2 := cell_of (j := 2) hbr rfl
    have x3 := cell_of (j := 3) hbr rfl
    have x4 := cell_of (j := 4) hbr rfl
    have HBR := Lib.hid hbr; clear hbr
    by_cases hml : m < l.length
    · obtain ⟨t0, ht⟩ : ∃ t, l[m]? = some t := ⟨_, List.getElem?_eq_getElem hml⟩
      obtain ⟨hA, hc, hcf⟩ := HM.out.at_ ht (fun i hi k hk => (SD.out i hi k hk).2) DD.out AA.out
      have V := Lib.hid ((IH.out t0 (List.mem_of_getElem? ht)).drawn wr (fun k => SS m k ∧ k < w.heap.size) (ys m) (bs m) g (m * 2) cu _ HPR.out (fun h => hnn m hml h.1) hgc hA (fun h => (SD.out m hml g h.1).2 rfl) HM.out.row hc)
      have HT := Lib.hid ht; have HCF := Lib.hid hcf
      clear hA hc hcf ht
      go_wp2_with fail
      have mv := PP.out.visit wr.drew HPR.out
      go_region_with (first | (refine V.out.mono ?_; rintro e w3 ⟨rfl, y', b', hr3, hg3, ha3⟩) | fail)
      have HN := Lib.hid (HM.out.next HT.out hgl (fun i hi k hk => (SD.out i hi k hk).2) DD.out hr3 hg3 ha3)
      have f := cell_of (j := m * 2 + 1) hr3 (by rw [Array.getElem?_setIfInBounds_ne (by omega)]; exact HCF.out)
      have HP3 := Lib.hid ((hg3.block cb (heap_lt HPR.out) (fun hx => hx.elim (fun hx => hnn m hml hx.1) (fun hx => hgc hx.symm))).trans HPR.out)
      clear hr3 hg3 ha3 x2 x3 x4 mv
      have mf := PP.out.fodder w3.drew HP3.out
      go_wp2_with fail
      go_region_with (first | (refine (fodder_drawn _ _ f).mono ?_; rintro e w4 ⟨rfl, rfl⟩) | fail)
      clear f mf
      go_wp2
      go_roundw
      case rel => exact ⟨m + 1, _, _, _, _, by omega, by go_num, HN.out.drew⟩
      case measure => simp [intOf]; omega
    · obtain rfl : m = l.length := by omega
      go_wp2_with fail
      go_loopw [61] (fun i w2 => i = .int .i64 0 ∧ w2 = wr) (fun _ _ => 0)
      case atStart => exact ⟨rfl, rfl⟩
      case round =>
        obtain ⟨rfl, rfl⟩ := hrel
        have mf := PP.out.fodder wr HPR.out
        go_wp2_with fail
        refine (fodder_any _ _ x4).mono ?_
        rintro e w4 ⟨rfl, rfl⟩
        go_wp2
        go_end0
        exact ⟨rfl, _, _, _, _, HM.out⟩
set_option maxRecDepth 100000 in
set_option maxHeartbeats 1000000 in
theorem base_arguments0 {fV : FuncId} {yp TP : TypeId} {cb : Nat} (P : PassVisits fV yp TP cb) (r : Value) {w : World} {b cap y1 b1 : Nat} {p0 p1 p2 p3 p4 p5 : Option Addr} {n0 n1 n2 n3 n4 n5 : Nat} {tc : Bool} {l : List Tr} (h0 : l.length = 0) {a : Option Addr}
    (hb : w.heap[b]? = some (.cells #[.iface y1 (.pointer (some ⟨b1, 0, none⟩)), .slice p2 0 n2, .slice a l.length cap, .slice p3 0 n3, .slice p4 0 n4, .slice p5 0 n5, .slice p0 0 n0, .pointer none, .slice p1 0 n1, .pointer none, .string ByteArray.empty, .int .i64 0, .int .i64 0, .int .i64 0, .int .i64 0, .bool tc, .bool false] 82)) (hp : PassAt TP cb w) :
    Calls Tryz.prog 100 #[r, .iface yp (.pointer (some ⟨cb, 0, none⟩)), .pointer (some ⟨b, 1, none⟩), .pointer (some ⟨b, 2, none⟩), .pointer (some ⟨b, 4, none⟩), .nilIface] w fun e w' => e = .returned (.tuple #[]) ∧ w = w' := by
  rw [h0] at hb
  have x1 := cell_of (j := 1) hb rfl
  have x2 := cell_of (j := 2) hb rfl
  have x3 := cell_of (j := 3) hb rfl
  have x4 := cell_of (j := 4) hb rfl
  have m2 := P.fodder w hp; have m3 := P.visit0; have m4 := P.fodder0; have m5 := P.enter
  clear hb P hp
  go_enter Tryz.func100, Tryz.ntmps100
  go_wp2_with fail
  refine (fodder_any _ _ x1).mono ?_
  rintro e w0 ⟨rfl, rfl⟩
  go_wp2_with fail
  go_loopw [26] (fun i wr => i = .int .i64 0 ∧ wr = w) (fun _ _ => 0)
  case atStart => exact ⟨rfl, rfl⟩
  case round =>
    obtain ⟨rfl, rfl⟩ := hrel
    go_wp2_with fail
    go_loopw [61] (fun i w2 => i = .int .i64 0 ∧ w2 = wr) (fun _ _ => 0)
    case atStart => exact ⟨rfl, rfl⟩
    case round =>
      obtain ⟨rfl, rfl⟩ := hrel
      go_wp2_with fail
      refine (fodder_any _ _ x4).mono ?_
      rintro e w4 ⟨rfl, rfl⟩
      go_wp2
      go_end0
      exact ⟨rfl, rfl⟩
set_option maxRecDepth 100000 in
set_option maxHeartbeats 1000000 in
theorem base_apply {fV : FuncId} {yp TP : TypeId} {cb : Nat} (P : PassVisits fV yp TP cb) (hA : ∀ w, PassAt TP cb w → (method 388 yp (.pointer (some ⟨cb, 0, none⟩)) "Arguments").run Tryz.prog w = .ok (100, .pointer (some ⟨cb, 0, none⟩)) w) (hA0 : ∀ w, (nilAhead 388 yp (.pointer (some ⟨cb, 0, none⟩)) "Arguments").run Tryz.prog w = .ok (some false) w) (F : Tr → Tr) (r : Value) {w : World} {S S1 : Nat → Prop} {SS : Nat → Nat → Prop} {b g cap : Nat} {cur : Array Value} {p0 p1 p2 p3 p4 p5 : Option Addr} {n0 n1 n2 n3 n4 n5 : Nat} {tc : Bool} {a : Option Addr} {t1 : Tr} {y1 : TypeId} {b1 : Nat} {l : List Tr} {ys bs : Nat → Nat} {ps : Nat → Option Addr} {ns : Nat → Nat} (hl : l.length ≤ 5) (hS : S b) (s1 : ∀ k, S1 k → S k ∧ k ≠ b ∧ (0 < l.length → k ≠ g))
    (hg : 0 < l.length → a = some ⟨g, 0, none⟩ ∧ S g ∧ g ≠ b ∧ w.heap[g]? = some (.cells cur 84)) (hcap : l.length ≤ cap)
    (hr : ∀ i, i < l.length → cur[i * 2]? = some (.iface (ys i) (.pointer (some ⟨bs i, 0, none⟩))) ∧ cur[i * 2 + 1]? = some (.slice (ps i) 0 (ns i)))
    (ss : ∀ i, i < l.length → ∀ k, SS i k → S k ∧ k ≠ b ∧ k ≠ g ∧ ¬ S1 k) (dd : ∀ i j, i < j → j < l.length → ∀ k, SS i k → ¬ SS j k)
    (hb : w.heap[b]? = some (.cells #[.iface y1 (.pointer (some ⟨b1, 0, none⟩)), .slice p2 0 n2, .slice a l.length cap, .slice p3 0 n3, .slice p4 0 n4, .slice p5 0 n5, .slice p0 0 n0, .pointer none, .slice p1 0 n1, .pointer none, .string ByteArray.empty, .int .i64 0, .int .i64 0, .int .i64 0, .int .i64 0, .bool tc, .bool false] 82)) (a1 : Ast w S1 t1 y1 b1) (ih1 : VisitOk fV yp TP cb t1 (F t1)) (aa : ∀ i t, l[i]? = some t → Ast w (SS i) t (ys i) (bs i)) (ih : ∀ t ∈ l, VisitOk fV yp TP cb t (F t)) (hp : PassAt TP cb w) (hn : ¬ S cb) :
    Calls Tryz.prog 68 #[r, .iface yp (.pointer (some ⟨cb, 0, none⟩)), .pointer (some ⟨b, 0, none⟩), .nilIface] w fun e w' => Noded w S (.mk 13 ByteArray.empty 0 false (F t1 :: (l.map F).map fun t => .mk 32 ByteArray.empty 0 false [t])) 76 b e w' := by
  have zb := heap_lt hb
  have hbc : b ≠ cb := fun e => hn (e ▸ hS)
  have nc1 : ¬ S1 cb := fun h => hn (s1 cb h).1
  have HPP := Lib.hid hp; have mv := P.visit w.drew hp; have m3 := P.visit0; have m4 := P.fodder0; have m5 := P.enter
  have nb1 : ¬ S1 b := fun h => absurd rfl (s1 b h).2.1
  have V := Lib.hid (ih1.drawn w S1 y1 b1 b 0 _ _ hp nc1 hbc a1 nb1 hb rfl)
  have HP := Lib.hid P
  have HG := Lib.hid hg; have HR := Lib.hid hr; have SD := Lib.hid ss; have DD := Lib.hid dd; have AA := Lib.hid aa; have IH := Lib.hid ih; have S1D := Lib.hid s1
  clear hb hg hr ss dd aa ih P a1 ih1 s1 hp
  go_enter Tryz.func68, Tryz.ntmps68
  go_wp2_with fail
  go_region_with (first | (refine V.out.mono ?_; rintro e w1 ⟨rfl, y', b', hr1, hg1, ha1⟩) | fail)
  have HR1 := Lib.hid hr1; have HG1 := Lib.hid hg1; have HA1 := Lib.hid (part_first ha1)
  have z1 := hg1.size
  have HP1 := Lib.hid ((hg1.block cb (heap_lt HPP.out) (fun hx => hx.elim nc1 (fun hx => hbc hx.symm))).trans HPP.out)
  have ma := hA w1.drew HP1.out
  clear hr1 hg1 ha1 mv
  by_cases h0 : 0 < l.length
  · obtain ⟨rfl, hSg, hgb, hh⟩ := HG.out h0
    have hgl := heap_lt hh
    have hh1 := (HG1.out.block g hgl (fun hx => hx.elim (fun hx => (S1D.out g hx).2.2 h0 rfl) hgb)).trans hh
    have C := Lib.hid (base_arguments (w := w1.drew) HP.out F (.pointer (some ⟨cb, 0, none⟩)) (SS := fun i k => SS i k ∧ k < w.heap.size) hl h0 hgb hh1 HR.out (fun i hi k hk => ⟨(SD.out i hi k hk.1).2.1, (SD.out i hi k hk.1).2.2.1⟩) (fun i j hij hj k hk hk' => DD.out i j hij hj k hk.1 hk'.1) rfl HR1.out
      (fun i t ht => Ast.drew ((AA.out i t ht).within HG1.out (fun k hk hx => hx.elim (fun hx => (SD.out i (List.getElem?_eq_some_iff.1 ht).1 k hk).2.2.2 hx) (fun hx => (SD.out i (List.getElem?_eq_some_iff.1 ht).1 k hk).2.1 hx)))) IH.out HP1.out (fun e => hn (e ▸ hSg)) (fun i hi h => hn (SD.out i hi cb h.1).1) hbc)
    clear hh hh1
    go_wp2_with fail
    go_region_with (first | (refine C.out.mono ?_; rintro e w2 ⟨rfl, cu, yn, bn, lo, hm⟩) | fail)
    have hb2 := (hm.within.block b (heap_lt HR1.out) (fun hx => by
      rcases hx with hx | ⟨i, hi, hx⟩
      · exact hgb hx.symm
      · exact (SD.out i hi b hx.1).2.1 rfl)).trans HR1.out
    have x16 := cell_of (j := 16) hb2 rfl
    have HM := Lib.hid hm
    clear hb2 hm
    go_wp2
    go_end0
    obtain ⟨e1, e2⟩ := apply_end (w1 := w1.drew) hS hSg hgb zb hgl hcap (fun k hk => ⟨(S1D.out k hk).1, (S1D.out k hk).2.1, (S1D.out k hk).2.2 h0⟩) SD.out DD.out HR1.out HG1.out.drew HA1.out.drew HM.out
    exact ⟨rfl, e1, e2⟩
  · have hl0 : l.length = 0 := by omega
    have C := Lib.hid (base_arguments0 (w := w1.drew) HP.out (.pointer (some ⟨cb, 0, none⟩)) hl0 HR1.out HP1.out)
    have x16 := cell_of (j := 16) HR1.out rfl
    go_wp2_with fail
    go_region_with (first | (refine C.out.mono ?_; rintro e w2 ⟨rfl, rfl⟩) | fail)
    go_wp2
    go_end0
    obtain rfl : l = [] := List.eq_nil_of_length_eq_zero hl0
    refine Noded.drew (w' := w1) ⟨rfl, HG1.out.mono (fun k hk _ => hk.elim (fun hk => (S1D.out k hk).1) (fun hk => hk ▸ hS)), .apply (S1 := Part w S1 w.heap.size w1.heap.size) (SS := fun _ _ => False) b g cur p0 p1 p2 p3 p4 p5 n0 n1 n2 n3 n4 n5 cap tc a (l := []) (.inr ⟨hS, zb⟩) (fun k hk => ?_) (fun h => absurd h (by simp)) (Nat.zero_le _) (fun i h => absurd h (by simp)) (fun i h => absurd h (by simp)) (fun i j _ h => absurd h (by simp)) HR1.out HA1.out (ys := ys) (bs := bs) (ps := ps) (ns := ns) (fun i t h => by simp at h)⟩
    rcases hk with hk | hk
    · exact ⟨.inl hk.1, by omega, fun h => absurd h (by simp)⟩
    · exact ⟨.inr ⟨(S1D.out k hk.1).1, hk.2⟩, (S1D.out k hk.1).2.1, fun h => absurd h (by simp)⟩
end Go.Proofs.YtlgajopaokjjaaaGreatFmt
