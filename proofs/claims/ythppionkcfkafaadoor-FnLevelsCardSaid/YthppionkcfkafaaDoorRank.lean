/-
  spec.Rank, inner/ast.ExprPrecedence, impl.Level: how tight an expression binds. Conditions: spec.Tree's; the map of the precedences holds what the program's text lays in it.
-/
import Derived.Test.YthppionkcfkafaaDoorBinds
import Derived.Test.YthppionkcfkafaaDoorTreeAny
import Derived.Test.YthppionkcfkafaaDoorAssertD
namespace Go.Proofs.YthppionkcfkafaaDoor
open Go.ChangeShapes Go.WideShapes Go.ChangeAt Go.RowKit Go.Joins Go.WideElems Go.Maps
attribute [local go_sem] ta_Apply ta_ApplyBrace ta_Assert ta_Binary ta_Conditional ta_Error ta_Import ta_ImportBin ta_ImportStr ta_InSuper ta_Index ta_Local ta_Slice ta_SuperIndex ta_Unary

/-- How tight an expression binds, by the description. -/
def rankF (t : Tr) : Int := if t.k = 14 then -1 else if t.k = 13 ∨ t.k = 15 ∨ t.k = 16 then 1 else if t.k = 8 then 2 else if t.k = 9 then 3 + bindsF t.op else if t.k = 10 ∨ t.k = 23 then 20 else 0
/-- The same, by the program. -/
def levF (t : Tr) : Int := if t.k = 13 ∨ t.k = 14 ∨ t.k = 15 ∨ t.k = 16 then 2 else if t.k = 8 then 4 else if t.k = 9 then bindsF t.op + 5 else if t.k = 10 ∨ t.k = 23 then 16 else 1
theorem rank_le (t : Tr) : -1 ≤ rankF t ∧ rankF t ≤ 20 := by
  have := bindsF_le t.op
  unfold rankF
  (repeat' split) <;> omega
theorem lev_le (t : Tr) : 1 ≤ levF t ∧ levF t ≤ 16 := by
  have := bindsF_le t.op
  unfold levF
  (repeat' split) <;> omega
/-- The one out of the other. -/
def gF (r : Int) : Int := if r = 0 then 1 else if r = 1 then 2 else if r = 2 then 4 else if r ≤ 12 then r + 2 else 16
theorem lev_g (t : Tr) (h : 0 ≤ rankF t) : levF t = gF (rankF t) ∧ (rankF t ≤ 12 ∨ rankF t = 20) := by
  have hx := bindsF_le t.op
  by_cases h14 : t.k = 14
  · exact absurd h (by unfold rankF; rw [if_pos h14]; omega)
  by_cases hA : t.k = 13 ∨ t.k = 15 ∨ t.k = 16
  · have e1 : rankF t = 1 := by unfold rankF; rw [if_neg h14, if_pos hA]
    have e2 : levF t = 2 := by unfold levF; rw [if_pos (by omega)]
    rw [e1, e2]; exact ⟨rfl, .inl (by omega)⟩
  by_cases hU : t.k = 8
  · have e1 : rankF t = 2 := by unfold rankF; rw [if_neg h14, if_neg hA, if_pos hU]
    have e2 : levF t = 4 := by unfold levF; rw [if_neg (by omega), if_pos hU]
    rw [e1, e2]; exact ⟨rfl, .inl (by omega)⟩
  by_cases hB : t.k = 9
  · have e1 : rankF t = 3 + bindsF t.op := by unfold rankF; rw [if_neg h14, if_neg hA, if_neg hU, if_pos hB]
    have e2 : levF t = bindsF t.op + 5 := by unfold levF; rw [if_neg (by omega), if_neg hU, if_pos hB]
    rw [e1, e2]
    refine ⟨?_, .inl (by omega)⟩
    unfold gF
    rw [if_neg (by omega), if_neg (by omega), if_neg (by omega), if_pos (by omega)]
    omega
  by_cases hC : t.k = 10 ∨ t.k = 23
  · have e1 : rankF t = 20 := by unfold rankF; rw [if_neg h14, if_neg hA, if_neg hU, if_neg hB, if_pos hC]
    have e2 : levF t = 16 := by unfold levF; rw [if_neg (by omega), if_neg hU, if_neg hB, if_pos hC]
    rw [e1, e2]; exact ⟨rfl, .inr rfl⟩
  have e1 : rankF t = 0 := by unfold rankF; rw [if_neg h14, if_neg hA, if_neg hU, if_neg hB, if_neg hC]
  have e2 : levF t = 1 := by unfold levF; rw [if_neg (by omega), if_neg hU, if_neg hB, if_neg hC]
  rw [e1, e2]; exact ⟨rfl, .inl (by omega)⟩
theorem g_lt {x y : Int} (hx : 0 ≤ x) (hy : 0 ≤ y) (bx : x ≤ 12 ∨ x = 20) (cy : y ≤ 12 ∨ y = 20) : (gF x < gF y ↔ x < y) ∧ (gF x = gF y ↔ x = y) := by
  have kx : (x = 0 ∧ gF x = 1) ∨ (x = 1 ∧ gF x = 2) ∨ (x = 2 ∧ gF x = 4) ∨ (3 ≤ x ∧ x ≤ 12 ∧ gF x = x + 2) ∨ (x = 20 ∧ gF x = 16) := by unfold gF; (repeat' split) <;> omega
  have ky : (y = 0 ∧ gF y = 1) ∨ (y = 1 ∧ gF y = 2) ∨ (y = 2 ∧ gF y = 4) ∨ (3 ≤ y ∧ y ≤ 12 ∧ gF y = y + 2) ∨ (y = 20 ∧ gF y = 16) := by unfold gF; (repeat' split) <;> omega
  generalize gF x = p at *
  generalize gF y = q at *
  omega
theorem lev_lt {t s : Tr} (ht : 0 ≤ rankF t) (hs : 0 ≤ rankF s) : (levF t < levF s ↔ rankF t < rankF s) ∧ (levF t = levF s ↔ rankF t = rankF s) := by
  obtain ⟨e1, b1⟩ := lev_g t ht
  obtain ⟨e2, b2⟩ := lev_g s hs
  rw [e1, e2]
  exact g_lt ht hs b1 b2
set_option maxRecDepth 100000 in
set_option maxHeartbeats 4000000 in
theorem rank_any {t : Tr} (ok : Ok t) {S : Nat → Prop} {w : World} {u : Value} (hs : Subs w S t.subs u) :
    Calls Tryd.prog 9 #[.agg #[.int .i64 t.k, .string t.tx, .int .i64 t.op, .bool t.fl, u]] w fun e w' => e = .returned (.int .i64 (rankF t)) ∧ Below w.heap.size w w' := by
  obtain ⟨a, cap, rfl, _⟩ := hs.form
  clear hs
  obtain ⟨n, hn⟩ : ∃ n, t.subs.length = n := ⟨_, rfl⟩
  rw [hn]
  cases ok with
  | null =>
    clear hn
    go_enter Tryd.func9, Tryd.ntmps9
    simp only [Tr.k, Tr.tx, Tr.op, Tr.fl]
    go_wp2
    go_ret
    exact ⟨by simp [rankF, Tr.k], below_alloc1 _ _⟩
  | boolean fl =>
    clear hn
    go_enter Tryd.func9, Tryd.ntmps9
    simp only [Tr.k, Tr.tx, Tr.op, Tr.fl]
    go_wp2
    go_ret
    exact ⟨by simp [rankF, Tr.k], below_alloc1 _ _⟩
  | number tx =>
    clear hn
    go_enter Tryd.func9, Tryd.ntmps9
    simp only [Tr.k, Tr.tx, Tr.op, Tr.fl]
    go_wp2
    go_ret
    exact ⟨by simp [rankF, Tr.k], below_alloc1 _ _⟩
  | str tx op h0 h4 =>
    clear hn
    go_enter Tryd.func9, Tryd.ntmps9
    simp only [Tr.k, Tr.tx, Tr.op, Tr.fl]
    go_wp2
    go_ret
    exact ⟨by simp [rankF, Tr.k], below_alloc1 _ _⟩
  | self =>
    clear hn
    go_enter Tryd.func9, Tryd.ntmps9
    simp only [Tr.k, Tr.tx, Tr.op, Tr.fl]
    go_wp2
    go_ret
    exact ⟨by simp [rankF, Tr.k], below_alloc1 _ _⟩
  | dollar =>
    clear hn
    go_enter Tryd.func9, Tryd.ntmps9
    simp only [Tr.k, Tr.tx, Tr.op, Tr.fl]
    go_wp2
    go_ret
    exact ⟨by simp [rankF, Tr.k], below_alloc1 _ _⟩
  | var tx =>
    clear hn
    go_enter Tryd.func9, Tryd.ntmps9
    simp only [Tr.k, Tr.tx, Tr.op, Tr.fl]
    go_wp2
    go_ret
    exact ⟨by simp [rankF, Tr.k], below_alloc1 _ _⟩
  | unary op t1 h0 h4 a1 =>
    clear hn
    go_enter Tryd.func9, Tryd.ntmps9
    simp only [Tr.k, Tr.tx, Tr.op, Tr.fl]
    go_wp2
    go_ret
    exact ⟨by simp [rankF, Tr.k], below_alloc1 _ _⟩
  | binary op t1 t2 h0 h4 a1 a2 =>
    clear hn
    obtain ⟨x, hx⟩ : ∃ x, bindsF op = x := ⟨_, rfl⟩
    have p := bindsF_le op
    rw [hx] at p
    have p1 : (0 : Int) ≤ x := p.1
    have p2 : x ≤ 9 := p.2
    have HX := Lib.hid hx
    clear hx p
    have hB := below_alloc1 w (.cells #[.int .i64 9, .string ByteArray.empty, .int .i64 op, .bool false, .slice a n cap] 28)
    go_enter Tryd.func9, Tryd.ntmps9
    simp only [Tr.k, Tr.tx, Tr.op, Tr.fl]
    go_wp2_with fail
    refine (binds_is _ HX.out).mono ?_
    rintro e w1 ⟨rfl, hb1⟩
    have hB1 := hB.trans (hb1.mono hB.size)
    clear hb1 hB
    go_wp2
    go_ret
    exact ⟨by simp [rankF, Tr.k, Tr.op, HX.out], hB1⟩
  | if2 t1 t2 a1 a2 =>
    clear hn
    go_enter Tryd.func9, Tryd.ntmps9
    simp only [Tr.k, Tr.tx, Tr.op, Tr.fl]
    go_wp2
    go_ret
    exact ⟨by simp [rankF, Tr.k], below_alloc1 _ _⟩
  | if3 t1 t2 t3 a1 a2 a3 =>
    clear hn
    go_enter Tryd.func9, Tryd.ntmps9
    simp only [Tr.k, Tr.tx, Tr.op, Tr.fl]
    go_wp2
    go_ret
    exact ⟨by simp [rankF, Tr.k], below_alloc1 _ _⟩
  | brace t1 t2 a1 a2 =>
    clear hn
    go_enter Tryd.func9, Tryd.ntmps9
    simp only [Tr.k, Tr.tx, Tr.op, Tr.fl]
    go_wp2
    go_ret
    exact ⟨by simp [rankF, Tr.k], below_alloc1 _ _⟩
  | index t1 t2 a1 a2 =>
    clear hn
    go_enter Tryd.func9, Tryd.ntmps9
    simp only [Tr.k, Tr.tx, Tr.op, Tr.fl]
    go_wp2
    go_ret
    exact ⟨by simp [rankF, Tr.k], below_alloc1 _ _⟩
  | dot tx t1 a1 =>
    clear hn
    go_enter Tryd.func9, Tryd.ntmps9
    simp only [Tr.k, Tr.tx, Tr.op, Tr.fl]
    go_wp2
    go_ret
    exact ⟨by simp [rankF, Tr.k], below_alloc1 _ _⟩
  | error t1 a1 =>
    clear hn
    go_enter Tryd.func9, Tryd.ntmps9
    simp only [Tr.k, Tr.tx, Tr.op, Tr.fl]
    go_wp2
    go_ret
    exact ⟨by simp [rankF, Tr.k], below_alloc1 _ _⟩
  | parens t1 a1 =>
    clear hn
    go_enter Tryd.func9, Tryd.ntmps9
    simp only [Tr.k, Tr.tx, Tr.op, Tr.fl]
    go_wp2
    go_ret
    exact ⟨by simp [rankF, Tr.k], below_alloc1 _ _⟩
  | apply t1 l hl a1 aa =>
    clear hn
    go_enter Tryd.func9, Tryd.ntmps9
    simp only [Tr.k, Tr.tx, Tr.op, Tr.fl]
    go_wp2
    go_ret
    exact ⟨by simp [rankF, Tr.k], below_alloc1 _ _⟩
  | array l hl aa =>
    clear hn
    go_enter Tryd.func9, Tryd.ntmps9
    simp only [Tr.k, Tr.tx, Tr.op, Tr.fl]
    go_wp2
    go_ret
    exact ⟨by simp [rankF, Tr.k], below_alloc1 _ _⟩
  | object l hl hf aa =>
    clear hn
    go_enter Tryd.func9, Tryd.ntmps9
    simp only [Tr.k, Tr.tx, Tr.op, Tr.fl]
    go_wp2
    go_ret
    exact ⟨by simp [rankF, Tr.k], below_alloc1 _ _⟩
set_option maxRecDepth 100000 in
set_option maxHeartbeats 4000000 in
theorem level_any {w : World} {S : Nat → Prop} {t : Tr} {y : TypeId} {b bm : Nat} (h : Ast w S t y b) (ho : t.k = 9 → 0 ≤ t.op ∧ t.op < 19) (hL : ∀ w', Below w.heap.size w w' → HasLev w' bm) :
    Calls Tryd.prog 20 #[.iface y (.pointer (some ⟨b, 0, none⟩))] w fun e w' => e = .returned (.int .i64 (levF t)) ∧ Below w.heap.size w w' := by
  cases h with
  | null b p0 p1 n0 n1 hS hb =>
    clear hL ho
    go_enter Tryd.func20, Tryd.ntmps20
    go_wp2
    go_ret
    exact ⟨by simp [levF, Tr.k], Below.refl _ _⟩
  | boolean b fl p0 p1 n0 n1 hS hb =>
    clear hL ho
    go_enter Tryd.func20, Tryd.ntmps20
    go_wp2
    go_ret
    exact ⟨by simp [levF, Tr.k], Below.refl _ _⟩
  | number b tx p0 p1 n0 n1 hS hb =>
    clear hL ho
    go_enter Tryd.func20, Tryd.ntmps20
    go_wp2
    go_ret
    exact ⟨by simp [levF, Tr.k], Below.refl _ _⟩
  | str b tx op p0 p1 n0 n1 hS hb =>
    clear hL ho
    go_enter Tryd.func20, Tryd.ntmps20
    go_wp2
    go_ret
    exact ⟨by simp [levF, Tr.k], Below.refl _ _⟩
  | self b p0 p1 n0 n1 hS hb =>
    clear hL ho
    go_enter Tryd.func20, Tryd.ntmps20
    go_wp2
    go_ret
    exact ⟨by simp [levF, Tr.k], Below.refl _ _⟩
  | dollar b p0 p1 n0 n1 hS hb =>
    clear hL ho
    go_enter Tryd.func20, Tryd.ntmps20
    go_wp2
    go_ret
    exact ⟨by simp [levF, Tr.k], Below.refl _ _⟩
  | var b tx p0 p1 n0 n1 hS hb =>
    clear hL ho
    go_enter Tryd.func20, Tryd.ntmps20
    go_wp2
    go_ret
    exact ⟨by simp [levF, Tr.k], Below.refl _ _⟩
  | unary b op p0 p1 n0 n1 hS s1 hb a1 =>
    clear hL ho
    go_enter Tryd.func20, Tryd.ntmps20
    go_wp2
    go_ret
    exact ⟨by simp [levF, Tr.k], Below.refl _ _⟩
  | binary b op p0 p1 p2 n0 n1 n2 hS s1 s2 d12 hb a1 a2 =>
    obtain ⟨h0, h1⟩ := ho rfl
    obtain ⟨j, rfl⟩ := Int.eq_ofNat_of_zero_le (show 0 ≤ op from h0)
    have hd : Below w.heap.size w w.drew := ⟨rfl, rfl, rfl, Nat.le_refl _, fun _ _ => rfl⟩
    have hj : j < 19 := by simp [Tr.op] at h1; omega
    obtain ⟨hc, hlt, hl⟩ := hL w (Below.refl _ _)
    have hl' := hl j hj
    obtain ⟨hc2, hlt2, hl2⟩ := hL w.drew hd
    have hl3 := hl2 j hj
    have q := cell_of (j := 12) hb rfl
    have q2 : w.drew.cell? ⟨b, 12, none⟩ = some (.int .i64 (j : Int)) := q
    clear hl hl2 hb ho h0 h1 hL
    go_enter Tryd.func20, Tryd.ntmps20
    go_wp2
    go_region
    all_goals
      go_wp2
      go_ret
      exact ⟨by simp [levF, Tr.k, Tr.op], hd⟩
  | if2 b p0 p1 p2 p3 n0 n1 n2 n3 hS s1 s2 d12 hb a1 a2 =>
    clear hL ho
    go_enter Tryd.func20, Tryd.ntmps20
    go_wp2
    go_ret
    exact ⟨by simp [levF, Tr.k], Below.refl _ _⟩
  | if3 b p0 p1 p2 p3 n0 n1 n2 n3 hS s1 s2 s3 d12 d13 d23 hb a1 a2 a3 =>
    clear hL ho
    go_enter Tryd.func20, Tryd.ntmps20
    go_wp2
    go_ret
    exact ⟨by simp [levF, Tr.k], Below.refl _ _⟩
  | brace b p0 p1 n0 n1 hS s1 s2 d12 hb a1 a2 =>
    clear hL ho
    go_enter Tryd.func20, Tryd.ntmps20
    go_wp2
    go_ret
    exact ⟨by simp [levF, Tr.k], Below.refl _ _⟩
  | index b p0 p1 p2 p3 n0 n1 n2 n3 hS s1 s2 d12 hb a1 a2 =>
    clear hL ho
    go_enter Tryd.func20, Tryd.ntmps20
    go_wp2
    go_ret
    exact ⟨by simp [levF, Tr.k], Below.refl _ _⟩
  | dot b c tx p0 p1 p2 p3 n0 n1 n2 n3 hS hc hbc s1 hb hid a1 =>
    clear hL ho
    go_enter Tryd.func20, Tryd.ntmps20
    go_wp2
    go_ret
    exact ⟨by simp [levF, Tr.k], Below.refl _ _⟩
  | error b p0 p1 n0 n1 hS s1 hb a1 =>
    clear hL ho
    go_enter Tryd.func20, Tryd.ntmps20
    go_wp2
    go_ret
    exact ⟨by simp [levF, Tr.k], Below.refl _ _⟩
  | parens b p0 p1 p2 n0 n1 n2 hS s1 hb a1 =>
    clear hL ho
    go_enter Tryd.func20, Tryd.ntmps20
    go_wp2
    go_ret
    exact ⟨by simp [levF, Tr.k], Below.refl _ _⟩
  | apply b g cur p0 p1 p2 p3 p4 p5 n0 n1 n2 n3 n4 n5 cap tc a hS s1 hg hcap hr ss dd hb a1 aa =>
    clear hL ho
    go_enter Tryd.func20, Tryd.ntmps20
    go_wp2
    go_ret
    exact ⟨by simp [levF, Tr.k], Below.refl _ _⟩
  | array b g cur p0 p1 p2 n0 n1 n2 cap tc a hS hg hcap hr ss dd hb aa =>
    clear hL ho
    go_enter Tryd.func20, Tryd.ntmps20
    go_wp2
    go_ret
    exact ⟨by simp [levF, Tr.k], Below.refl _ _⟩
  | object b g cur p0 p1 p2 n0 n1 n2 cap tc a hS hg hcap hr ss d12 dd di hb a1 a2 =>
    clear hL ho
    go_enter Tryd.func20, Tryd.ntmps20
    go_wp2
    go_ret
    exact ⟨by simp [levF, Tr.k], Below.refl _ _⟩
theorem ok_op {t : Tr} (ok : Ok t) (h : t.k = 9) : 0 ≤ t.op ∧ t.op < 19 := by
  cases ok <;> simp [Tr.k] at h
  exact ⟨‹_›, ‹_›⟩
set_option maxRecDepth 100000 in
set_option maxHeartbeats 4000000 in
theorem implLevel_any {t : Tr} (ok : Ok t) {S : Nat → Prop} {w : World} {u : Value} (hs : Subs w S t.subs u) {bm : Nat} (hL : ∀ w', Below w.heap.size w w' → HasLev w' bm) :
    Calls Tryd.prog 10 #[.agg #[.int .i64 t.k, .string t.tx, .int .i64 t.op, .bool t.fl, u]] w fun e w' => e = .returned (.int .i64 (levF t)) ∧ Below w.heap.size w w' := by
  obtain ⟨a, cap, rfl, hcap⟩ := hs.form
  have HL := Lib.hid hL; clear hL
  have HO := Lib.hid ok
  have hB := below_alloc1 w (.cells #[.int .i64 t.k, .string t.tx, .int .i64 t.op, .bool t.fl, .slice a t.subs.length cap] 24)
  have HS := Lib.hid (hs.bel hB); clear hs ok
  go_enter Tryd.func10, Tryd.ntmps10
  go_wp2_with fail
  refine (tree_any HO.out S _ _ HS.out).mono ?_
  rintro e w1 ⟨⟨y, b, rfl, hA⟩, hb1⟩
  have HA := Lib.hid hA; have HB1 := Lib.hid (hB.trans (hb1.mono hB.size)); clear hA hb1 hB
  go_wp2_with fail
  refine (level_any HA.out (ok_op HO.out) (fun w' h => HL.out _ (HB1.out.trans (h.mono HB1.out.size)))).mono ?_
  rintro e w2 ⟨rfl, hb2⟩
  have HB2 := Lib.hid (HB1.out.trans (hb2.mono HB1.out.size)); clear hb2
  go_wp2
  go_ret
  exact ⟨rfl, HB2.out⟩
end Go.Proofs.YthppionkcfkafaaDoor
