/-
  (*FixParens).Parens. Conditions: what the base's Parens does.
-/
import Derived.Test.YthhcfkkmbjaeeaaFmtBase
namespace Go.Proofs.YthhcfkkmbjaeeaaFmt
open Go.ChangeShapes Go.WideShapes Go.ChangeAt Go.RowKit Go.Joins
attribute [local go_sem] ta_Apply ta_ApplyBrace ta_Binary ta_Index ta_InSuper ta_Slice ta_Parens
theorem leftRec_parens (b : Nat) (w : World) : Calls Tryf.prog 102 #[.iface 102 (.pointer (some ⟨b, 0, none⟩))] w fun e w' => e = .returned .nilIface ∧ w = w' := by
  go_enter Tryf.func102, Tryf.ntmps102
  go_wp2
  go_ret
  exact ⟨rfl, rfl⟩
theorem leftDeep_parens (b : Nat) (w : World) : Calls Tryf.prog 101 #[.iface 102 (.pointer (some ⟨b, 0, none⟩))] w fun e w' => e = .returned (.iface 102 (.pointer (some ⟨b, 0, none⟩))) ∧ w = w' := by
  go_enter Tryf.func101, Tryf.ntmps101
  go_wp2_with fail
  go_at_call 102
  refine (leftRec_parens b w).mono ?_
  rintro e w1 ⟨rfl, rfl⟩
  go_wp2_with fail
  go_loopw [3, 4] (fun l i wr => l = .iface 102 (.pointer (some ⟨b, 0, none⟩)) ∧ i = .nilIface ∧ wr = w) (fun _ _ _ => 0)
  case atStart => exact ⟨rfl, rfl, rfl⟩
  case round =>
    obtain ⟨rfl, rfl, rfl⟩ := hrel
    go_wp2
    go_ret
    exact ⟨rfl, rfl⟩
theorem openFodder_parens (b : Nat) (w : World) : Calls Tryf.prog 99 #[.iface 102 (.pointer (some ⟨b, 0, none⟩))] w fun e w' => e = .returned (.pointer (some ⟨b, 2, none⟩)) ∧ w = w' := by
  have m := of_Parens b
  go_enter Tryf.func99, Tryf.ntmps99
  go_wp2_with fail
  go_at_call 101
  refine (leftDeep_parens b w).mono ?_
  rintro e w1 ⟨rfl, rfl⟩
  go_wp2_with fail
  refine (openFodder_any w).mono ?_
  rintro e w1 ⟨rfl, rfl⟩
  go_wp2
  go_ret
  exact ⟨rfl, rfl⟩
set_option maxRecDepth 100000 in
set_option maxHeartbeats 800000 in
theorem fix_plain {cb b b1 : Nat} {y1 : TypeId} {w : World} (q0 : w.cell? ⟨b, 0, none⟩ = some (.iface y1 (.pointer (some ⟨b1, 0, none⟩)))) (hy : ¬ y1 = 102) (hp : PassAt 51 cb w) {Q : Ending → World → Prop} (base : Calls Tryf.prog 100 #[.pointer (some ⟨cb, 0, none⟩), .iface 50 (.pointer (some ⟨cb, 0, none⟩)), .pointer (some ⟨b, 0, none⟩), .nilIface] w fun e w' => e = .returned (.tuple #[]) ∧ Q e w') :
    Calls Tryf.prog 93 #[.pointer (some ⟨cb, 0, none⟩), .iface 50 (.pointer (some ⟨cb, 0, none⟩)), .pointer (some ⟨b, 0, none⟩), .nilIface] w fun e w' => e = .returned (.tuple #[]) ∧ Q e w' := by
  have B := Lib.hid base
  have pz := partAt_zero (P := Tryf.prog) hp (by kernel_rfl)
  clear base hp
  go_enter Tryf.func93, Tryf.ntmps93
  go_wp2_with fail
  refine B.out.mono ?_
  rintro e w1 ⟨rfl, hq⟩
  have HQ := Lib.hid hq
  clear hq
  go_wp2
  go_end0
  exact ⟨rfl, HQ.out⟩
set_option maxRecDepth 100000 in
set_option maxHeartbeats 1000000 in
theorem fix_double {cb b b1 b2 : Nat} {y2 : TypeId} {p0 p1 p2 q0 q1 q2 : Option Addr} {n0 n1 n2 m0 m1 m2 : Nat} {w : World} (hp : PassAt 51 cb w) (hcb : ¬ cb = b) (hcb1 : ¬ cb = b1) (hbb : ¬ b = b1)
    (hb : w.heap[b]? = some (.cells #[.iface 102 (.pointer (some ⟨b1, 0, none⟩)), .slice p2 0 n2, .slice p0 0 n0, .pointer none, .slice p1 0 n1, .pointer none, .string ByteArray.empty, .int .i64 0, .int .i64 0, .int .i64 0, .int .i64 0] 104)) (hb1 : w.heap[b1]? = some (.cells #[.iface y2 (.pointer (some ⟨b2, 0, none⟩)), .slice q2 0 m2, .slice q0 0 m0, .pointer none, .slice q1 0 m1, .pointer none, .string ByteArray.empty, .int .i64 0, .int .i64 0, .int .i64 0, .int .i64 0] 104))
    {Q : Ending → World → Prop} (base : ∀ w2, w2.heap[b]? = some (.cells #[.iface y2 (.pointer (some ⟨b2, 0, none⟩)), .slice p2 0 n2, .slice p0 0 n0, .pointer none, .slice p1 0 n1, .pointer none, .string ByteArray.empty, .int .i64 0, .int .i64 0, .int .i64 0, .int .i64 0] 104) → Within w w2 (fun k => k = b ∨ k = b1) → Calls Tryf.prog 100 #[.pointer (some ⟨cb, 0, none⟩), .iface 50 (.pointer (some ⟨cb, 0, none⟩)), .pointer (some ⟨b, 0, none⟩), .nilIface] w2 fun e w' => e = .returned (.tuple #[]) ∧ Q e w') :
    Calls Tryf.prog 93 #[.pointer (some ⟨cb, 0, none⟩), .iface 50 (.pointer (some ⟨cb, 0, none⟩)), .pointer (some ⟨b, 0, none⟩), .nilIface] w fun e w' => e = .returned (.tuple #[]) ∧ Q e w' := by
  have B := Lib.hid base; have HP := Lib.hid hp
  have hb1b : ¬ b1 = b := fun e => hbb e.symm
  have c0 := cell_of (j := 0) hb rfl
  have d0 := cell_of (j := 0) hb1 rfl
  have fz := fun i => unfrozen_of_block hb i
  have zb := heap_lt hb
  have zb1 := heap_lt hb1
  have hs := set_same (i := 0) (v := .iface y2 (.pointer (some ⟨b2, 0, none⟩))) hb
  have hs1 := bk_set (p := ⟨b, 0, none⟩) (u := .iface y2 (.pointer (some ⟨b2, 0, none⟩))) hb1b hb1
  have MV := Lib.hid (moveFront_empty (w := (w.setCell ⟨b, 0, none⟩ (.iface y2 (.pointer (some ⟨b2, 0, none⟩)))).drew) hs (i := 2) rfl hs1 (j := 2) rfl hbb)
  have HW := Lib.hid (Within.set (w := w) (S := fun k => k = b ∨ k = b1) (b := b) (i := 0) (.iface y2 (.pointer (some ⟨b2, 0, none⟩))) (.inl rfl))
  have HS := Lib.hid hs; have HS1 := Lib.hid hs1
  clear base hp hb hb1 hs hs1
  go_enter Tryf.func93, Tryf.ntmps93
  go_wp2_with fail
  go_region_with (first | (go_at_call 99; refine (openFodder_parens b _).mono ?_; rintro e w9 ⟨rfl, rfl⟩) | (go_at_call 64; refine MV.out.mono ?_; rintro e w1 ⟨rfl, g, k, hr1, hg1⟩) | fail)
  all_goals
    have hg1 := hg1.undrew
    have hrb := (hg1.block b (heap_lt HS.out) (fun e => hbb e)).trans HS.out
    have MV2 := Lib.hid (moveFront_empty (w := w1.drew) hrb (i := 1) rfl hr1 (j := 1) rfl hbb)
    have HRB := Lib.hid hrb
    have HG1 := Lib.hid (HW.out.trans hg1 (fun k hk _ => .inr hk))
    clear hg1 hr1 hrb c0 d0
    go_wp2_with fail
    go_region_with (first | (go_at_call 64; refine MV2.out.mono ?_; rintro e w2 ⟨rfl, g2, k2, hr2, hg2⟩) | fail)
    all_goals
      have hg2 := hg2.undrew
      have hw2 := HG1.out.trans hg2 (fun k hk _ => .inr hk)
      have pz := partAt_zero (P := Tryf.prog) ((hw2.block cb (heap_lt HP.out) (fun hx => hx.elim hcb hcb1)).trans HP.out) (by kernel_rfl)
      have BB := Lib.hid (B.out w2 ((hg2.block b (heap_lt HRB.out) (fun e => hbb e)).trans HRB.out) hw2)
      clear hg2 hr2 hw2
      go_wp2_with fail
      refine BB.out.mono ?_
      rintro e w3 ⟨rfl, hq⟩
      have HQ := Lib.hid hq
      clear hq
      go_wp2
      go_end0
      exact ⟨rfl, HQ.out⟩
end Go.Proofs.YthhcfkkmbjaeeaaFmt
