/-
  The passes' own methods, by kinds: indexes. Conditions: what Visit does at the nodes below.
-/
import Derived.Test.YtlgajopaokjjaaaGreatFmtBase
namespace Go.Proofs.YtlgajopaokjjaaaGreatFmt
open Go.ChangeShapes Go.WideShapes Go.ChangeAt Go.RowKit Go.Joins
set_option maxRecDepth 100000 in
set_option maxHeartbeats 1000000 in
theorem base_index {fV : FuncId} {yp TP : TypeId} {cb : Nat} (P : PassVisits fV yp TP cb) (r : Value) {w : World} {S : Nat → Prop} {S1 S2 : Nat → Prop} {t1 t1' t2 t2' : Tr} {y1 y2 : TypeId} {b1 b2 : Nat} {b : Nat} {p0 p1 p2 p3 : Option Addr} {n0 n1 n2 n3 : Nat} (hS : S b)
    (s1 : ∀ k, S1 k → S k ∧ k ≠ b) (a1 : Ast w S1 t1 y1 b1) (ih1 : VisitOk fV yp TP cb t1 t1')
    (s2 : ∀ k, S2 k → S k ∧ k ≠ b) (a2 : Ast w S2 t2 y2 b2) (ih2 : VisitOk fV yp TP cb t2 t2')
    (d12 : ∀ k, S1 k → ¬ S2 k)
    (hb : w.heap[b]? = some (.cells #[.iface y1 (.pointer (some ⟨b1, 0, none⟩)), .iface y2 (.pointer (some ⟨b2, 0, none⟩)), .slice p2 0 n2, .slice p3 0 n3, .pointer none, .slice p0 0 n0, .pointer none, .slice p1 0 n1, .pointer none, .string ByteArray.empty, .int .i64 0, .int .i64 0, .int .i64 0, .int .i64 0] 91)) (hp : PassAt TP cb w) (hn : ¬ S cb) :
    Calls Tryz.prog 82 #[r, .iface yp (.pointer (some ⟨cb, 0, none⟩)), .pointer (some ⟨b, 0, none⟩), .nilIface] w fun e w' => Noded w S (.mk 15 ByteArray.empty 0 false [t1', t2']) 88 b e w' := by
  have zb := heap_lt hb
  have m3 := P.visit0; have m4 := P.fodder0; have m5 := P.enter
  have hbc : b ≠ cb := fun e => hn (e ▸ hS)
  have nc1 : ¬ S1 cb := fun h => hn (s1 cb h).1
  have nc2 : ¬ S2 cb := fun h => hn (s2 cb h).1
  have HP0 := Lib.hid hp; have PP := Lib.hid P
  have A1 := Lib.hid a1; have IH1 := Lib.hid ih1
  have A2 := Lib.hid a2; have IH2 := Lib.hid ih2
  have nb1 : ¬ S1 b := fun h => absurd rfl (s1 b h).2
  have nb2 : ¬ S2 b := fun h => absurd rfl (s2 b h).2
  have HR0 := Lib.hid hb
  have HW0 := Lib.hid (Within.refl w (fun k => k = b ∨ S1 k ∨ S2 k))
  clear hb P hp a1 ih1 a2 ih2
  go_enter Tryz.func82, Tryz.ntmps82
  go_wp2_with fail
  have mv := PP.out.visit w.drew HP0.out
  go_region_with (first | (refine (IH1.out.drawn w S1 y1 b1 b 0 _ _ HP0.out nc1 hbc A1.out nb1 HR0.out rfl).mono ?_; rintro e w1 ⟨rfl, y1', b1', hr, hg, ha⟩) | fail)
  clear mv
  have HR1 := Lib.hid hr
  have HP1 := Lib.hid ((hg.block cb (heap_lt HP0.out) (fun hx => hx.elim (fun hx => nc1 hx) (fun hx => hbc hx.symm))).trans HP0.out)
  have HG1 := Lib.hid hg
  have HW1 := Lib.hid (HW0.out.trans HG1.out (fun k hk _ => by rcases hk with hk | hk <;> simp [hk]))
  have z1 := HW1.out.size
  have HA1_1 := Lib.hid (part_first ha)
  have X2 := Lib.hid (A2.out.within HG1.out (fun k hk hx => hx.elim (fun hx => d12 k hx hk) (fun hx => nb2 (hx ▸ hk))))
  clear hr hg ha
  have f3 := cell_of (w := w1) (j := 3) HR1.out rfl
  go_wp2_with fail
  have mf := PP.out.fodder w1.drew HP1.out
  go_region_with (first | (refine (fodder_drawn _ _ f3).mono ?_; rintro e w0 ⟨rfl, rfl⟩) | fail)
  clear f3 mf
  have f4 := cell_of (w := w1.drew) (j := 4) HR1.out rfl
  go_wp2_with fail
  have mv := PP.out.visit w1.drew.drew HP1.out
  go_region_with (first | (refine (IH2.out.drawn w1.drew (fun k => S2 k ∧ k < w.heap.size) y2 b2 b 1 _ _ HP1.out (fun h => nc2 h.1) hbc X2.out.drew (fun h => nb2 h.1) HR1.out rfl).mono ?_; rintro e w2 ⟨rfl, y2', b2', hr, hg, ha⟩) | fail)
  clear mv
  have HR2 := Lib.hid hr
  have hg := hg.undrew
  have HP2 := Lib.hid ((hg.block cb (heap_lt HP1.out) (fun hx => hx.elim (fun hx => nc2 hx.1) (fun hx => hbc hx.symm))).trans HP1.out)
  have HG2 := Lib.hid (hg.mono (T := fun k => S2 k ∨ k = b) (fun k hk _ => hk.imp And.left id))
  have HW2 := Lib.hid (HW1.out.trans HG2.out (fun k hk _ => by rcases hk with hk | hk <;> simp [hk]))
  have z2 := HW2.out.size
  have zz2 := HG2.out.size
  have HA1_2 := Lib.hid (part_far HA1_1.out hg (fun k hk => hk.elim (fun hk => ⟨hk.2, fun h => d12 k h hk.1⟩) (fun hk => ⟨hk ▸ zb, fun h => nb1 (hk ▸ h)⟩)) (Nat.le_refl _))
  have HA2_2 := Lib.hid (part_of (w2 := w1) ha)
  clear hr hg ha
  have f2 := cell_of (w := w2) (j := 2) HR2.out rfl
  go_wp2_with fail
  have mf := PP.out.fodder w2.drew HP2.out
  go_region_with (first | (refine (fodder_drawn _ _ f2).mono ?_; rintro e w0 ⟨rfl, rfl⟩) | fail)
  clear f2 mf
  go_wp2
  go_end0
  have fin : Noded w S (.mk 15 ByteArray.empty 0 false [t1', t2']) 88 b (.returned (.tuple #[])) w2 := ⟨rfl, HW2.out.mono (fun k hk _ => hk.elim (fun hk => hk ▸ hS) (fun hk => hk.elim (fun hk => (s1 k hk).1) (fun hk => (s2 k hk).1))), .index b p0 p1 p2 p3 n0 n1 n2 n3 (.inr ⟨hS, zb⟩) (part_in (Nat.le_refl _) zb s1) (part_in z1 zb s2) (part_apart d12 (Nat.le_refl _) (Nat.le_refl _) z1) HR2.out HA1_2.out HA2_2.out⟩
  exact fin.drew
set_option maxRecDepth 100000 in
set_option maxHeartbeats 1000000 in
theorem base_dot {fV : FuncId} {yp TP : TypeId} {cb : Nat} (P : PassVisits fV yp TP cb) (r : Value) {w : World} {S : Nat → Prop} {S1 : Nat → Prop} {t1 t1' : Tr} {y1 : TypeId} {b1 : Nat} (i : Nat) (tx : ByteArray) {b : Nat} {p0 p1 p2 p3 : Option Addr} {n0 n1 n2 n3 : Nat} (hS : S b)
    (hi : S i) (hbi : b ≠ i) (s1 : ∀ k, S1 k → S k ∧ k ≠ b ∧ k ≠ i) (hid : w.heap[i]? = some (.cells #[.string tx] 92)) (a1 : Ast w S1 t1 y1 b1) (ih1 : VisitOk fV yp TP cb t1 t1')
    (hb : w.heap[b]? = some (.cells #[.iface y1 (.pointer (some ⟨b1, 0, none⟩)), .nilIface, .slice p2 0 n2, .slice p3 0 n3, .pointer (some ⟨i, 0, none⟩), .slice p0 0 n0, .pointer none, .slice p1 0 n1, .pointer none, .string ByteArray.empty, .int .i64 0, .int .i64 0, .int .i64 0, .int .i64 0] 91)) (hp : PassAt TP cb w) (hn : ¬ S cb) :
    Calls Tryz.prog 82 #[r, .iface yp (.pointer (some ⟨cb, 0, none⟩)), .pointer (some ⟨b, 0, none⟩), .nilIface] w fun e w' => Noded w S (.mk 16 tx 0 false [t1']) 88 b e w' := by
  have zb := heap_lt hb
  have m3 := P.visit0; have m4 := P.fodder0; have m5 := P.enter
  have hbc : b ≠ cb := fun e => hn (e ▸ hS)
  have nc1 : ¬ S1 cb := fun h => hn (s1 cb h).1
  have HP0 := Lib.hid hp; have PP := Lib.hid P
  have A1 := Lib.hid a1; have IH1 := Lib.hid ih1
  have nb1 : ¬ S1 b := fun h => absurd rfl (s1 b h).2.1
  have HR0 := Lib.hid hb
  have HW0 := Lib.hid (Within.refl w (fun k => k = b ∨ S1 k))
  clear hb P hp a1 ih1
  go_enter Tryz.func82, Tryz.ntmps82
  go_wp2_with fail
  have mv := PP.out.visit w.drew HP0.out
  go_region_with (first | (refine (IH1.out.drawn w S1 y1 b1 b 0 _ _ HP0.out nc1 hbc A1.out nb1 HR0.out rfl).mono ?_; rintro e w1 ⟨rfl, y1', b1', hr, hg, ha⟩) | fail)
  clear mv
  have HR1 := Lib.hid hr
  have HP1 := Lib.hid ((hg.block cb (heap_lt HP0.out) (fun hx => hx.elim (fun hx => nc1 hx) (fun hx => hbc hx.symm))).trans HP0.out)
  have HG1 := Lib.hid hg
  have HW1 := Lib.hid (HW0.out.trans HG1.out (fun k hk _ => by rcases hk with hk | hk <;> simp [hk]))
  have z1 := HW1.out.size
  have HA1_1 := Lib.hid (part_first ha)
  clear hr hg ha
  have f3 := cell_of (w := w1) (j := 3) HR1.out rfl
  go_wp2_with fail
  have mf := PP.out.fodder w1.drew HP1.out
  go_region_with (first | (refine (fodder_drawn _ _ f3).mono ?_; rintro e w0 ⟨rfl, rfl⟩) | fail)
  clear f3 mf
  have f4 := cell_of (w := w1.drew) (j := 4) HR1.out rfl
  go_wp2
  go_end0
  have fin : Noded w S (.mk 16 tx 0 false [t1']) 88 b (.returned (.tuple #[])) w1 := ⟨rfl, HW1.out.mono (fun k hk _ => hk.elim (fun hk => hk ▸ hS) (fun hk => (s1 k hk).1)), .dot b i tx p0 p1 p2 p3 n0 n1 n2 n3 (.inr ⟨hS, zb⟩) (.inr ⟨hi, heap_lt hid⟩) hbi (part_in3 (Nat.le_refl _) zb (heap_lt hid) s1) HR1.out ((HW1.out.block i (heap_lt hid) (fun h => h.elim (fun h => hbi h.symm) (fun h => (s1 _ h).2.2 rfl))).trans hid) HA1_1.out⟩
  exact fin.drew
end Go.Proofs.YtlgajopaokjjaaaGreatFmt
