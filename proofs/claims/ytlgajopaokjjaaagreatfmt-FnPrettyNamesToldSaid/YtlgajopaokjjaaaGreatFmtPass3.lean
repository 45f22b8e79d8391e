/-
  The passes' own methods, by kinds: a condition. Conditions: what Visit does at the nodes below.
-/
import Derived.Test.YtlgajopaokjjaaaGreatFmtBase
namespace Go.Proofs.YtlgajopaokjjaaaGreatFmt
open Go.ChangeShapes Go.WideShapes Go.ChangeAt Go.RowKit Go.Joins
set_option maxRecDepth 100000 in
set_option maxHeartbeats 1000000 in
theorem base_if2 {fV : FuncId} {yp TP : TypeId} {cb : Nat} (P : PassVisits fV yp TP cb) (r : Value) {w : World} {S : Nat → Prop} {S1 S2 : Nat → Prop} {t1 t1' t2 t2' : Tr} {y1 y2 : TypeId} {b1 b2 : Nat} {b : Nat} {p0 p1 p2 p3 : Option Addr} {n0 n1 n2 n3 : Nat} (hS : S b)
    (s1 : ∀ k, S1 k → S k ∧ k ≠ b) (a1 : Ast w S1 t1 y1 b1) (ih1 : VisitOk fV yp TP cb t1 t1')
    (s2 : ∀ k, S2 k → S k ∧ k ≠ b) (a2 : Ast w S2 t2 y2 b2) (ih2 : VisitOk fV yp TP cb t2 t2')
    (d12 : ∀ k, S1 k → ¬ S2 k)
    (hb : w.heap[b]? = some (.cells #[.iface y1 (.pointer (some ⟨b1, 0, none⟩)), .iface y2 (.pointer (some ⟨b2, 0, none⟩)), .nilIface, .slice p2 0 n2, .slice p3 0 n3, .slice p0 0 n0, .pointer none, .slice p1 0 n1, .pointer none, .string ByteArray.empty, .int .i64 0, .int .i64 0, .int .i64 0, .int .i64 0] 75)) (hp : PassAt TP cb w) (hn : ¬ S cb) :
    Calls Tryz.prog 74 #[r, .iface yp (.pointer (some ⟨cb, 0, none⟩)), .pointer (some ⟨b, 0, none⟩), .nilIface] w fun e w' => Noded w S (.mk 10 ByteArray.empty 0 false [t1', t2']) 73 b e w' := by
  have zb := heap_lt hb
  have m3 := P.visit0; have m4 := P.fodder0; have m5 := P.enter
  have hbc : b ≠ cb := fun e => hn (e ▸ hS)
  have nc1 : ¬ S1 cb := fun h => hn (s1 cb h).1
  have nc2 : ¬ S2 cb := fun h => hn (s2 cb h).1
  have HP0 := Lib.hid hp; have PP := Lib.hid P
  have A1 := Lib.hid a1; have IH1 := Lib.hid ih1
  have A2 := Lib.hid a2; have IH2 := Lib.hid ih2
  have nb1 : ¬ S1 b := fun h => absurd rfl (s1 b h).2
  have nb2 : ¬ S2 b := fun h => absurd rfl (s2 b h).2
  have HR0 := Lib.hid hb
  have HW0 := Lib.hid (Within.refl w (fun k => k = b ∨ S1 k ∨ S2 k))
  clear hb P hp a1 ih1 a2 ih2
  go_enter Tryz.func74, Tryz.ntmps74
  go_wp2_with fail
  have mv := PP.out.visit w.drew HP0.out
  go_region_with (first | (refine (IH1.out.drawn w S1 y1 b1 b 0 _ _ HP0.out nc1 hbc A1.out nb1 HR0.out rfl).mono ?_; rintro e w1 ⟨rfl, y1', b1', hr, hg, ha⟩) | fail)
  clear mv
  have HR1 := Lib.hid hr
  have HP1 := Lib.hid ((hg.block cb (heap_lt HP0.out) (fun hx => hx.elim (fun hx => nc1 hx) (fun hx => hbc hx.symm))).trans HP0.out)
  have HG1 := Lib.hid hg
  have HW1 := Lib.hid (HW0.out.trans HG1.out (fun k hk _ => by rcases hk with hk | hk <;> simp [hk]))
  have z1 := HW1.out.size
  have HA1_1 := Lib.hid (part_first ha)
  have X2 := Lib.hid (A2.out.within HG1.out (fun k hk hx => hx.elim (fun hx => d12 k hx hk) (fun hx => nb2 (hx ▸ hk))))
  clear hr hg ha
  have f3 := cell_of (w := w1) (j := 3) HR1.out rfl
  go_wp2_with fail
  have mf := PP.out.fodder w1.drew HP1.out
  go_region_with (first | (refine (fodder_drawn _ _ f3).mono ?_; rintro e w0 ⟨rfl, rfl⟩) | fail)
  clear f3 mf
  go_wp2_with fail
  have mv := PP.out.visit w1.drew.drew HP1.out
  go_region_with (first | (refine (IH2.out.drawn w1.drew (fun k => S2 k ∧ k < w.heap.size) y2 b2 b 1 _ _ HP1.out (fun h => nc2 h.1) hbc X2.out.drew (fun h => nb2 h.1) HR1.out rfl).mono ?_; rintro e w2 ⟨rfl, y2', b2', hr, hg, ha⟩) | fail)
  clear mv
  have HR2 := Lib.hid hr
  have hg := hg.undrew
  have HP2 := Lib.hid ((hg.block cb (heap_lt HP1.out) (fun hx => hx.elim (fun hx => nc2 hx.1) (fun hx => hbc hx.symm))).trans HP1.out)
  have HG2 := Lib.hid (hg.mono (T := fun k => S2 k ∨ k = b) (fun k hk _ => hk.imp And.left id))
  have HW2 := Lib.hid (HW1.out.trans HG2.out (fun k hk _ => by rcases hk with hk | hk <;> simp [hk]))
  have z2 := HW2.out.size
  have zz2 := HG2.out.size
  have HA1_2 := Lib.hid (part_far HA1_1.out hg (fun k hk => hk.elim (fun hk => ⟨hk.2, fun h => d12 k h hk.1⟩) (fun hk => ⟨hk ▸ zb, fun h => nb1 (hk ▸ h)⟩)) (Nat.le_refl _))
  have HA2_2 := Lib.hid (part_of (w2 := w1) ha)
  clear hr hg ha
  have f2 := cell_of (w := w2) (j := 2) HR2.out rfl
  go_wp2
  go_end0
  have fin : Noded w S (.mk 10 ByteArray.empty 0 false [t1', t2']) 73 b (.returned (.tuple #[])) w2 := ⟨rfl, HW2.out.mono (fun k hk _ => hk.elim (fun hk => hk ▸ hS) (fun hk => hk.elim (fun hk => (s1 k hk).1) (fun hk => (s2 k hk).1))), .if2 b p0 p1 p2 p3 n0 n1 n2 n3 (.inr ⟨hS, zb⟩) (part_in (Nat.le_refl _) zb s1) (part_in z1 zb s2) (part_apart d12 (Nat.le_refl _) (Nat.le_refl _) z1) HR2.out HA1_2.out HA2_2.out⟩
  exact fin
set_option maxRecDepth 100000 in
set_option maxHeartbeats 1000000 in
theorem base_if3 {fV : FuncId} {yp TP : TypeId} {cb : Nat} (P : PassVisits fV yp TP cb) (r : Value) {w : World} {S : Nat → Prop} {S1 S2 S3 : Nat → Prop} {t1 t1' t2 t2' t3 t3' : Tr} {y1 y2 y3 : TypeId} {b1 b2 b3 : Nat} {b : Nat} {p0 p1 p2 p3 : Option Addr} {n0 n1 n2 n3 : Nat} (hS : S b)
    (s1 : ∀ k, S1 k → S k ∧ k ≠ b) (a1 : Ast w S1 t1 y1 b1) (ih1 : VisitOk fV yp TP cb t1 t1')
    (s2 : ∀ k, S2 k → S k ∧ k ≠ b) (a2 : Ast w S2 t2 y2 b2) (ih2 : VisitOk fV yp TP cb t2 t2')
    (s3 : ∀ k, S3 k → S k ∧ k ≠ b) (a3 : Ast w S3 t3 y3 b3) (ih3 : VisitOk fV yp TP cb t3 t3')
    (d12 : ∀ k, S1 k → ¬ S2 k)
    (d13 : ∀ k, S1 k → ¬ S3 k)
    (d23 : ∀ k, S2 k → ¬ S3 k)
    (hb : w.heap[b]? = some (.cells #[.iface y1 (.pointer (some ⟨b1, 0, none⟩)), .iface y2 (.pointer (some ⟨b2, 0, none⟩)), .iface y3 (.pointer (some ⟨b3, 0, none⟩)), .slice p2 0 n2, .slice p3 0 n3, .slice p0 0 n0, .pointer none, .slice p1 0 n1, .pointer none, .string ByteArray.empty, .int .i64 0, .int .i64 0, .int .i64 0, .int .i64 0] 75)) (hp : PassAt TP cb w) (hn : ¬ S cb) :
    Calls Tryz.prog 74 #[r, .iface yp (.pointer (some ⟨cb, 0, none⟩)), .pointer (some ⟨b, 0, none⟩), .nilIface] w fun e w' => Noded w S (.mk 10 ByteArray.empty 0 false [t1', t2', t3']) 73 b e w' := by
  have zb := heap_lt hb
  have m3 := P.visit0; have m4 := P.fodder0; have m5 := P.enter
  have hbc : b ≠ cb := fun e => hn (e ▸ hS)
  have nc1 : ¬ S1 cb := fun h => hn (s1 cb h).1
  have nc2 : ¬ S2 cb := fun h => hn (s2 cb h).1
  have nc3 : ¬ S3 cb := fun h => hn (s3 cb h).1
  have HP0 := Lib.hid hp; have PP := Lib.hid P
  have A1 := Lib.hid a1; have IH1 := Lib.hid ih1
  have A2 := Lib.hid a2; have IH2 := Lib.hid ih2
  have A3 := Lib.hid a3; have IH3 := Lib.hid ih3
  have nb1 : ¬ S1 b := fun h => absurd rfl (s1 b h).2
  have nb2 : ¬ S2 b := fun h => absurd rfl (s2 b h).2
  have nb3 : ¬ S3 b := fun h => absurd rfl (s3 b h).2
  have HR0 := Lib.hid hb
  have HW0 := Lib.hid (Within.refl w (fun k => k = b ∨ S1 k ∨ S2 k ∨ S3 k))
  clear hb P hp a1 ih1 a2 ih2 a3 ih3
  go_enter Tryz.func74, Tryz.ntmps74
  go_wp2_with fail
  have mv := PP.out.visit w.drew HP0.out
  go_region_with (first | (refine (IH1.out.drawn w S1 y1 b1 b 0 _ _ HP0.out nc1 hbc A1.out nb1 HR0.out rfl).mono ?_; rintro e w1 ⟨rfl, y1', b1', hr, hg, ha⟩) | fail)
  clear mv
  have HR1 := Lib.hid hr
  have HP1 := Lib.hid ((hg.block cb (heap_lt HP0.out) (fun hx => hx.elim (fun hx => nc1 hx) (fun hx => hbc hx.symm))).trans HP0.out)
  have HG1 := Lib.hid hg
  have HW1 := Lib.hid (HW0.out.trans HG1.out (fun k hk _ => by rcases hk with hk | hk <;> simp [hk]))
  have z1 := HW1.out.size
  have HA1_1 := Lib.hid (part_first ha)
  have X2 := Lib.hid (A2.out.within HG1.out (fun k hk hx => hx.elim (fun hx => d12 k hx hk) (fun hx => nb2 (hx ▸ hk))))
  have X3 := Lib.hid (A3.out.within HG1.out (fun k hk hx => hx.elim (fun hx => d13 k hx hk) (fun hx => nb3 (hx ▸ hk))))
  clear hr hg ha
  have f3 := cell_of (w := w1) (j := 3) HR1.out rfl
  go_wp2_with fail
  have mf := PP.out.fodder w1.drew HP1.out
  go_region_with (first | (refine (fodder_drawn _ _ f3).mono ?_; rintro e w0 ⟨rfl, rfl⟩) | fail)
  clear f3 mf
  go_wp2_with fail
  have mv := PP.out.visit w1.drew.drew HP1.out
  go_region_with (first | (refine (IH2.out.drawn w1.drew (fun k => S2 k ∧ k < w.heap.size) y2 b2 b 1 _ _ HP1.out (fun h => nc2 h.1) hbc X2.out.drew (fun h => nb2 h.1) HR1.out rfl).mono ?_; rintro e w2 ⟨rfl, y2', b2', hr, hg, ha⟩) | fail)
  clear mv
  have HR2 := Lib.hid hr
  have hg := hg.undrew
  have HP2 := Lib.hid ((hg.block cb (heap_lt HP1.out) (fun hx => hx.elim (fun hx => nc2 hx.1) (fun hx => hbc hx.symm))).trans HP1.out)
  have HG2 := Lib.hid (hg.mono (T := fun k => S2 k ∨ k = b) (fun k hk _ => hk.imp And.left id))
  have HW2 := Lib.hid (HW1.out.trans HG2.out (fun k hk _ => by rcases hk with hk | hk <;> simp [hk]))
  have z2 := HW2.out.size
  have zz2 := HG2.out.size
  have HA1_2 := Lib.hid (part_far HA1_1.out hg (fun k hk => hk.elim (fun hk => ⟨hk.2, fun h => d12 k h hk.1⟩) (fun hk => ⟨hk ▸ zb, fun h => nb1 (hk ▸ h)⟩)) (Nat.le_refl _))
  have HA2_2 := Lib.hid (part_of (w2 := w1) ha)
  have X3 := Lib.hid (X3.out.later HG2.out (fun k hk hx => hx.elim (fun hx => d23 k hx hk) (fun hx => nb3 (hx ▸ hk))))
  clear hr hg ha
  have f2 := cell_of (w := w2) (j := 2) HR2.out rfl
  have f4 := cell_of (w := w2) (j := 4) HR2.out rfl
  go_wp2_with fail
  have mf := PP.out.fodder w2.drew HP2.out
  go_region_with (first | (refine (fodder_drawn _ _ f4).mono ?_; rintro e w0 ⟨rfl, rfl⟩) | fail)
  clear f4 mf
  go_wp2_with fail
  have mv := PP.out.visit w2.drew.drew HP2.out
  go_region_with (first | (refine (IH3.out.drawn w2.drew (fun k => S3 k ∧ k < w.heap.size) y3 b3 b 2 _ _ HP2.out (fun h => nc3 h.1) hbc X3.out.drew (fun h => nb3 h.1) HR2.out rfl).mono ?_; rintro e w3 ⟨rfl, y3', b3', hr, hg, ha⟩) | fail)
  clear mv
  have HR3 := Lib.hid hr
  have hg := hg.undrew
  have HP3 := Lib.hid ((hg.block cb (heap_lt HP2.out) (fun hx => hx.elim (fun hx => nc3 hx.1) (fun hx => hbc hx.symm))).trans HP2.out)
  have HG3 := Lib.hid (hg.mono (T := fun k => S3 k ∨ k = b) (fun k hk _ => hk.imp And.left id))
  have HW3 := Lib.hid (HW2.out.trans HG3.out (fun k hk _ => by rcases hk with hk | hk <;> simp [hk]))
  have z3 := HW3.out.size
  have zz3 := HG3.out.size
  have HA1_3 := Lib.hid (part_far HA1_2.out hg (fun k hk => hk.elim (fun hk => ⟨hk.2, fun h => d13 k h hk.1⟩) (fun hk => ⟨hk ▸ zb, fun h => nb1 (hk ▸ h)⟩)) (Nat.le_refl _))
  have HA2_3 := Lib.hid (part_far HA2_2.out hg (fun k hk => hk.elim (fun hk => ⟨hk.2, fun h => d23 k h hk.1⟩) (fun hk => ⟨hk ▸ zb, fun h => nb2 (hk ▸ h)⟩)) (z1))
  have HA3_3 := Lib.hid (part_of (w2 := w2) ha)
  clear hr hg ha
  go_wp2
  go_end0
  have fin : Noded w S (.mk 10 ByteArray.empty 0 false [t1', t2', t3']) 73 b (.returned (.tuple #[])) w3 := ⟨rfl, HW3.out.mono (fun k hk _ => hk.elim (fun hk => hk ▸ hS) (fun hk => hk.elim (fun hk => (s1 k hk).1) (fun hk => hk.elim (fun hk => (s2 k hk).1) (fun hk => (s3 k hk).1)))), .if3 b p0 p1 p2 p3 n0 n1 n2 n3 (.inr ⟨hS, zb⟩) (part_in (Nat.le_refl _) zb s1) (part_in z1 zb s2) (part_in z2 zb s3) (part_apart d12 (Nat.le_refl _) (Nat.le_refl _) z1) (part_apart d13 zz2 (Nat.le_refl _) z2) (part_apart d23 (Nat.le_refl _) z1 z2) HR3.out HA1_3.out HA2_3.out HA3_3.out⟩
  exact fin
end Go.Proofs.YtlgajopaokjjaaaGreatFmt
