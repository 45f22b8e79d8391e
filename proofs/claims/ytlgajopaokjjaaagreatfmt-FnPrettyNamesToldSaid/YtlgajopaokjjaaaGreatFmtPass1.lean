/-
  The passes' own methods, by kinds: those with one below. Conditions: what Visit does at the nodes below.
-/
import Derived.Test.YtlgajopaokjjaaaGreatFmtBase
namespace Go.Proofs.YtlgajopaokjjaaaGreatFmt
open Go.ChangeShapes Go.WideShapes Go.ChangeAt Go.RowKit Go.Joins
set_option maxRecDepth 100000 in
set_option maxHeartbeats 1000000 in
theorem base_unary {fV : FuncId} {yp TP : TypeId} {cb : Nat} (P : PassVisits fV yp TP cb) (r : Value) {w : World} {S : Nat → Prop} {S1 : Nat → Prop} {t1 t1' : Tr} {y1 : TypeId} {b1 : Nat} (op : Int) {b : Nat} {p0 p1 : Option Addr} {n0 n1 : Nat} (hS : S b)
    (s1 : ∀ k, S1 k → S k ∧ k ≠ b) (a1 : Ast w S1 t1 y1 b1) (ih1 : VisitOk fV yp TP cb t1 t1')
    (hb : w.heap[b]? = some (.cells #[.iface y1 (.pointer (some ⟨b1, 0, none⟩)), .slice p0 0 n0, .pointer none, .slice p1 0 n1, .pointer none, .string ByteArray.empty, .int .i64 0, .int .i64 0, .int .i64 0, .int .i64 0, .int .i64 op] 68)) (hp : PassAt TP cb w) (hn : ¬ S cb) :
    Calls Tryz.prog 94 #[r, .iface yp (.pointer (some ⟨cb, 0, none⟩)), .pointer (some ⟨b, 0, none⟩), .nilIface] w fun e w' => Noded w S (.mk 8 ByteArray.empty op false [t1']) 53 b e w' := by
  have zb := heap_lt hb
  have m3 := P.visit0; have m4 := P.fodder0; have m5 := P.enter
  have hbc : b ≠ cb := fun e => hn (e ▸ hS)
  have nc1 : ¬ S1 cb := fun h => hn (s1 cb h).1
  have HP0 := Lib.hid hp; have PP := Lib.hid P
  have A1 := Lib.hid a1; have IH1 := Lib.hid ih1
  have nb1 : ¬ S1 b := fun h => absurd rfl (s1 b h).2
  have HR0 := Lib.hid hb
  have HW0 := Lib.hid (Within.refl w (fun k => k = b ∨ S1 k))
  clear hb P hp a1 ih1
  go_enter Tryz.func94, Tryz.ntmps94
  go_wp2_with fail
  have mv := PP.out.visit w.drew HP0.out
  go_region_with (first | (refine (IH1.out.drawn w S1 y1 b1 b 0 _ _ HP0.out nc1 hbc A1.out nb1 HR0.out rfl).mono ?_; rintro e w1 ⟨rfl, y1', b1', hr, hg, ha⟩) | fail)
  clear mv
  have HR1 := Lib.hid hr
  have HP1 := Lib.hid ((hg.block cb (heap_lt HP0.out) (fun hx => hx.elim (fun hx => nc1 hx) (fun hx => hbc hx.symm))).trans HP0.out)
  have HG1 := Lib.hid hg
  have HW1 := Lib.hid (HW0.out.trans HG1.out (fun k hk _ => by rcases hk with hk | hk <;> simp [hk]))
  have z1 := HW1.out.size
  have HA1_1 := Lib.hid (part_first ha)
  clear hr hg ha
  go_wp2
  go_end0
  have fin : Noded w S (.mk 8 ByteArray.empty op false [t1']) 53 b (.returned (.tuple #[])) w1 := ⟨rfl, HW1.out.mono (fun k hk _ => hk.elim (fun hk => hk ▸ hS) (fun hk => (s1 k hk).1)), .unary b op p0 p1 n0 n1 (.inr ⟨hS, zb⟩) (part_in (Nat.le_refl _) zb s1) HR1.out HA1_1.out⟩
  exact fin
set_option maxRecDepth 100000 in
set_option maxHeartbeats 1000000 in
theorem base_error {fV : FuncId} {yp TP : TypeId} {cb : Nat} (P : PassVisits fV yp TP cb) (r : Value) {w : World} {S : Nat → Prop} {S1 : Nat → Prop} {t1 t1' : Tr} {y1 : TypeId} {b1 : Nat} {b : Nat} {p0 p1 : Option Addr} {n0 n1 : Nat} (hS : S b)
    (s1 : ∀ k, S1 k → S k ∧ k ≠ b) (a1 : Ast w S1 t1 y1 b1) (ih1 : VisitOk fV yp TP cb t1 t1')
    (hb : w.heap[b]? = some (.cells #[.iface y1 (.pointer (some ⟨b1, 0, none⟩)), .slice p0 0 n0, .pointer none, .slice p1 0 n1, .pointer none, .string ByteArray.empty, .int .i64 0, .int .i64 0, .int .i64 0, .int .i64 0] 98)) (hp : PassAt TP cb w) (hn : ¬ S cb) :
    Calls Tryz.prog 57 #[r, .iface yp (.pointer (some ⟨cb, 0, none⟩)), .pointer (some ⟨b, 0, none⟩), .nilIface] w fun e w' => Noded w S (.mk 23 ByteArray.empty 0 false [t1']) 96 b e w' := by
  have zb := heap_lt hb
  have m3 := P.visit0; have m4 := P.fodder0; have m5 := P.enter
  have hbc : b ≠ cb := fun e => hn (e ▸ hS)
  have nc1 : ¬ S1 cb := fun h => hn (s1 cb h).1
  have HP0 := Lib.hid hp; have PP := Lib.hid P
  have A1 := Lib.hid a1; have IH1 := Lib.hid ih1
  have nb1 : ¬ S1 b := fun h => absurd rfl (s1 b h).2
  have HR0 := Lib.hid hb
  have HW0 := Lib.hid (Within.refl w (fun k => k = b ∨ S1 k))
  clear hb P hp a1 ih1
  go_enter Tryz.func57, Tryz.ntmps57
  go_wp2_with fail
  have mv := PP.out.visit w.drew HP0.out
  go_region_with (first | (refine (IH1.out.drawn w S1 y1 b1 b 0 _ _ HP0.out nc1 hbc A1.out nb1 HR0.out rfl).mono ?_; rintro e w1 ⟨rfl, y1', b1', hr, hg, ha⟩) | fail)
  clear mv
  have HR1 := Lib.hid hr
  have HP1 := Lib.hid ((hg.block cb (heap_lt HP0.out) (fun hx => hx.elim (fun hx => nc1 hx) (fun hx => hbc hx.symm))).trans HP0.out)
  have HG1 := Lib.hid hg
  have HW1 := Lib.hid (HW0.out.trans HG1.out (fun k hk _ => by rcases hk with hk | hk <;> simp [hk]))
  have z1 := HW1.out.size
  have HA1_1 := Lib.hid (part_first ha)
  clear hr hg ha
  go_wp2
  go_end0
  have fin : Noded w S (.mk 23 ByteArray.empty 0 false [t1']) 96 b (.returned (.tuple #[])) w1 := ⟨rfl, HW1.out.mono (fun k hk _ => hk.elim (fun hk => hk ▸ hS) (fun hk => (s1 k hk).1)), .error b p0 p1 n0 n1 (.inr ⟨hS, zb⟩) (part_in (Nat.le_refl _) zb s1) HR1.out HA1_1.out⟩
  exact fin
set_option maxRecDepth 100000 in
set_option maxHeartbeats 1000000 in
theorem base_parens {fV : FuncId} {yp TP : TypeId} {cb : Nat} (P : PassVisits fV yp TP cb) (r : Value) {w : World} {S : Nat → Prop} {S1 : Nat → Prop} {t1 t1' : Tr} {y1 : TypeId} {b1 : Nat} {b : Nat} {p0 p1 p2 : Option Addr} {n0 n1 n2 : Nat} (hS : S b)
    (s1 : ∀ k, S1 k → S k ∧ k ≠ b) (a1 : Ast w S1 t1 y1 b1) (ih1 : VisitOk fV yp TP cb t1 t1')
    (hb : w.heap[b]? = some (.cells #[.iface y1 (.pointer (some ⟨b1, 0, none⟩)), .slice p2 0 n2, .slice p0 0 n0, .pointer none, .slice p1 0 n1, .pointer none, .string ByteArray.empty, .int .i64 0, .int .i64 0, .int .i64 0, .int .i64 0] 101)) (hp : PassAt TP cb w) (hn : ¬ S cb) :
    Calls Tryz.prog 90 #[r, .iface yp (.pointer (some ⟨cb, 0, none⟩)), .pointer (some ⟨b, 0, none⟩), .nilIface] w fun e w' => Noded w S (.mk 28 ByteArray.empty 0 false [t1']) 99 b e w' := by
  have zb := heap_lt hb
  have m3 := P.visit0; have m4 := P.fodder0; have m5 := P.enter
  have hbc : b ≠ cb := fun e => hn (e ▸ hS)
  have nc1 : ¬ S1 cb := fun h => hn (s1 cb h).1
  have HP0 := Lib.hid hp; have PP := Lib.hid P
  have A1 := Lib.hid a1; have IH1 := Lib.hid ih1
  have nb1 : ¬ S1 b := fun h => absurd rfl (s1 b h).2
  have HR0 := Lib.hid hb
  have HW0 := Lib.hid (Within.refl w (fun k => k = b ∨ S1 k))
  clear hb P hp a1 ih1
  go_enter Tryz.func90, Tryz.ntmps90
  go_wp2_with fail
  have mv := PP.out.visit w.drew HP0.out
  go_region_with (first | (refine (IH1.out.drawn w S1 y1 b1 b 0 _ _ HP0.out nc1 hbc A1.out nb1 HR0.out rfl).mono ?_; rintro e w1 ⟨rfl, y1', b1', hr, hg, ha⟩) | fail)
  clear mv
  have HR1 := Lib.hid hr
  have HP1 := Lib.hid ((hg.block cb (heap_lt HP0.out) (fun hx => hx.elim (fun hx => nc1 hx) (fun hx => hbc hx.symm))).trans HP0.out)
  have HG1 := Lib.hid hg
  have HW1 := Lib.hid (HW0.out.trans HG1.out (fun k hk _ => by rcases hk with hk | hk <;> simp [hk]))
  have z1 := HW1.out.size
  have HA1_1 := Lib.hid (part_first ha)
  clear hr hg ha
  have f1 := cell_of (w := w1) (j := 1) HR1.out rfl
  go_wp2_with fail
  have mf := PP.out.fodder w1.drew HP1.out
  go_region_with (first | (refine (fodder_drawn _ _ f1).mono ?_; rintro e w0 ⟨rfl, rfl⟩) | fail)
  clear f1 mf
  go_wp2
  go_end0
  have fin : Noded w S (.mk 28 ByteArray.empty 0 false [t1']) 99 b (.returned (.tuple #[])) w1 := ⟨rfl, HW1.out.mono (fun k hk _ => hk.elim (fun hk => hk ▸ hS) (fun hk => (s1 k hk).1)), .parens b p0 p1 p2 n0 n1 n2 (.inr ⟨hS, zb⟩) (part_in (Nat.le_refl _) zb s1) HR1.out HA1_1.out⟩
  exact fin.drew
end Go.Proofs.YtlgajopaokjjaaaGreatFmt
