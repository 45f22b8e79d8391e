/-
  ast.Clone and impl.CloneTree. Conditions: spec.Tree's.
-/
import Derived.Test.YtceepfnjdkfjnaaFmtCloneAny
import Derived.Test.YtceepfnjdkfjnaaFmtNodeAny
import Derived.Test.YtceepfnjdkfjnaaFmtTreeAny
namespace Go.Proofs.YtceepfnjdkfjnaaFmt
open Go.ChangeShapes Go.WideShapes Go.ChangeAt Go.RowKit Go.Joins

theorem astClone_any {w : World} {S : Nat → Prop} {t : Tr} {y : TypeId} {b : Nat} (h : Ast w S t y b) (hb6 : Bnd 6 t) :
    Calls Tryf.prog 22 #[.iface y (.pointer (some ⟨b, 0, none⟩))] w fun e w' => (∃ b', e = .returned (.iface y (.pointer (some ⟨b', 0, none⟩))) ∧ Ast w' (fun _ => True) t y b') ∧ Below w.heap.size w w' := by
  have hr := heap_alloc_new w (.cells #[.iface y (.pointer (some ⟨b, 0, none⟩))] 75)
  have hB := below_alloc1 w (.cells #[.iface y (.pointer (some ⟨b, 0, none⟩))] 75)
  have HC := Lib.hid (clone_any t hb6 _ (fun k => S k ∧ k < w.heap.size) y b w.heap.size 0 _ _ (h.keep (fun k hk hl => ⟨hk, hl⟩) (fun k _ hl => hB.block k hl)) (fun h => by omega) hr rfl)
  have HB := Lib.hid hB
  clear hr hB h
  go_enter Tryf.func22, Tryf.ntmps22
  go_wp2_with fail
  refine HC.out.mono ?_
  rintro e w1 ⟨rfl, b', hc, hg, ha⟩
  have q := cell_of (j := 0) hc rfl
  have HA := Lib.hid (ha.mono (T := fun _ => True) (fun _ _ _ => trivial))
  have HB1 := Lib.hid (HB.out.grown hg (by simp) (fun k hk => by injection hk with hk; exact Nat.le_of_eq hk))
  clear hc hg ha
  go_wp2
  go_ret
  exact ⟨⟨_, rfl, HA.out⟩, HB1.out⟩

theorem implClone_any {t : Tr} (ok : Ok t) {S : Nat → Prop} {w : World} {u : Value} (hs : Subs w S t.subs u) :
    Calls Tryf.prog 15 #[.agg #[.int .i64 t.k, .string t.tx, .int .i64 t.op, .bool t.fl, u]] w fun e w' => TreeBack w t e w' ∧ Below w.heap.size w w' := by
  obtain ⟨a, cap, rfl, hcap⟩ := hs.form
  have HB := Lib.hid (below_alloc2 w (.cells #[.int .i64 t.k, .string t.tx, .int .i64 t.op, .bool t.fl, .slice a t.subs.length cap] 32) (.cells #[.int .i64 0, .string ByteArray.empty, .int .i64 0, .bool false, .slice none 0 0] 32))
  have HS := Lib.hid (hs.bel HB.out); clear hs
  have HZ := Lib.hid (show ((w.alloc (.cells #[.int .i64 t.k, .string t.tx, .int .i64 t.op, .bool t.fl, .slice a t.subs.length cap] 32)).alloc (.cells #[.int .i64 0, .string ByteArray.empty, .int .i64 0, .bool false, .slice none 0 0] 32)).heap[w.heap.size + 1]? = some (.cells #[.int .i64 0, .string ByteArray.empty, .int .i64 0, .bool false, .slice none 0 0] 32) from by
    have := heap_alloc_new (w.alloc (.cells #[.int .i64 t.k, .string t.tx, .int .i64 t.op, .bool t.fl, .slice a t.subs.length cap] 32)) (.cells #[.int .i64 0, .string ByteArray.empty, .int .i64 0, .bool false, .slice none 0 0] 32)
    rwa [show (w.alloc (.cells #[.int .i64 t.k, .string t.tx, .int .i64 t.op, .bool t.fl, .slice a t.subs.length cap] 32)).heap.size = w.heap.size + 1 from by simp] at this)
  have HO := Lib.hid ok; clear ok
  go_enter Tryf.func15, Tryf.ntmps15
  go_wp2_with fail
  refine (tree_any HO.out S _ _ HS.out).mono ?_
  rintro e w1 ⟨⟨y, b, rfl, hA⟩, hb1⟩
  have HB1 := Lib.hid hb1
  have HA := Lib.hid hA; clear hA hb1
  go_wp2_with fail
  refine (astClone_any HA.out (ok_bnd HO.out)).mono ?_
  rintro e w2 ⟨⟨b2, rfl, hA2⟩, hb2⟩
  have HB2 := Lib.hid (HB1.out.trans (hb2.mono HB1.out.size))
  have HA2 := Lib.hid hA2; clear hA2 hb2
  go_wp2_with fail
  refine (node_any HA2.out (ok_bnd HO.out) _ (Below.refl _ _)).mono ?_
  rintro e w3 ⟨⟨u3, rfl, hs3⟩, hb3⟩
  have HB3 := Lib.hid (HB2.out.trans (hb3.mono HB2.out.size))
  have hw2 : w.heap.size + 2 ≤ w2.heap.size := by have := HB2.out.size; simpa using this
  have HR3 := Lib.hid (hs3.mono (T := fun k => w.heap.size + 2 ≤ k) (fun k hk _ => Nat.le_trans hw2 hk)); clear hs3 hb3
  obtain ⟨a3, c3, rfl, _⟩ := HR3.out.form
  have HRX := Lib.hid ((HB3.out.block (w.heap.size + 1) (by simp)).trans HZ.out)
  have r0 := cell_of (j := 0) HRX.out rfl
  have r1 := cell_of (j := 1) HRX.out rfl
  have r2 := cell_of (j := 2) HRX.out rfl
  have r3 := cell_of (j := 3) HRX.out rfl
  have r4 := cell_of (j := 4) HRX.out rfl
  have r5 := fun i => unfrozen_of_block HRX.out i
  have zrr : w.heap.size + 1 < w3.heap.size := heap_lt HRX.out
  go_wp2
  have hr6 := set5_at (a := .int .i64 t.k) (b := .string t.tx) (c := .int .i64 t.op) (d := .bool t.fl) (e := .slice a3 t.subs.length c3) HRX.out
  have v0 := cell_of (j := 0) hr6 rfl
  have v1 := cell_of (j := 1) hr6 rfl
  have v2 := cell_of (j := 2) hr6 rfl
  have v3 := cell_of (j := 3) hr6 rfl
  have v4 := cell_of (j := 4) hr6 rfl
  have hBB := HB.out.trans (HB3.out.mono HB.out.size)
  refine bodyPost_ret (v := .agg #[.int .i64 t.k, .string t.tx, .int .i64 t.op, .bool t.fl, .slice a3 t.subs.length c3]) (by simp [results, Tryf.results15, go_sem, v0, v1, v2, v3, v4]) rfl ⟨⟨_, rfl, ?_⟩, below_set5 hBB (Nat.le_succ _)⟩
  exact HR3.out.keep (fun k hk _ => by omega) (fun k hk _ => heap_set5 (by omega))
end Go.Proofs.YtceepfnjdkfjnaaFmt
