/-
  spec.mapped: a node with others below it. Conditions: the lengths of its lists; what spec.change makes of the nodes below; the change is not that which adds pluses.
-/
import Derived.Test.YtlgajopaokjjaaaGreatFmtBase
import Derived.Test.YtlgajopaokjjaaaGreatFmtNode2
import Derived.Deep.AppendLies
namespace Go.Proofs.YtlgajopaokjjaaaGreatFmt
open Go.ChangeShapes Go.WideShapes Go.ChangeAt Go.RowKit Go.Joins
theorem bk_allc {W : World} {g : Nat} {o o' : Obj} (h : W.heap[g]? = some o) : (W.alloc o').heap[g]? = some o := (Below.heap_alloc W o' g (heap_lt' h)).trans h
/-- What spec.change makes of a tree. -/
def ChangeOk (f : Int) (s s' : Tr) : Prop := ∀ (S : Nat → Prop) (w : World) (u : Value), Subs w S s.subs u →
    Calls Tryz.prog 14 #[.agg #[.int .i64 s.k, .string s.tx, .int .i64 s.op, .bool s.fl, u], .int .i64 f] w fun e w' => TreeBack w s' e w' ∧ Below w.heap.size w w'
theorem news_at' (w : World) (o : Obj) (cs : Array Value) (t : TypeId) (g : Nat) (hg : g = w.heap.size + 1) {l : List Value} (hl : l = cs.toList) : ∀ j u, l[j]? = some u → ((w.alloc o).alloc (.cells cs t)).cell? ((⟨g, 0, none⟩ : Addr).add j) = some u := by
  subst hl
  have e : g = (w.alloc o).heap.size := by simpa using hg
  subst e
  exact World.news_of_block (heap_alloc_new _ _)
set_option maxRecDepth 100000 in
set_option maxHeartbeats 2000000 in
theorem mapped_any {f : Int} (hf : ¬ f = 0) (G : Tr → Tr) {t : Tr} {S : Nat → Prop} {w : World} {u : Value} (hs : Subs w S t.subs u) (hbd : t.subs.length ≤ 2199023255488) (ok : ∀ s ∈ t.subs, ChangeOk f s (G s)) :
    Calls Tryz.prog 30 #[.agg #[.int .i64 t.k, .string t.tx, .int .i64 t.op, .bool t.fl, u], .int .i64 f] w fun e w' => TreeBack w (.mk t.k t.tx t.op t.fl (t.subs.map G)) e w' ∧ Below w.heap.size w w' := by
  obtain ⟨a, cap, rfl, hcap⟩ := hs.form
  obtain ⟨i0, hi0, hz0, hs0, hb0⟩ := info_parts infoSN
  have H := Lib.hid hs; clear hs
  have OK := Lib.hid ok; clear ok
  have d0 : (f == 0) = false := by rw [beq_eq_false_iff_ne]; exact hf
  have HBX := Lib.hid (show ((w.alloc (.cells #[.int .i64 t.k, .string t.tx, .int .i64 t.op, .bool t.fl, .slice a t.subs.length cap] 28)).alloc (.cells #[.int .i64 0, .string ⟨#[]⟩, .int .i64 0, .bool false, .slice none 0 0] 28)).heap[w.heap.size]? = some (.cells #[.int .i64 t.k, .string t.tx, .int .i64 t.op, .bool t.fl, .slice a t.subs.length cap] 28) from bk_allc (heap_alloc_new w _))
  have HZC := Lib.hid (show ((w.alloc (.cells #[.int .i64 t.k, .string t.tx, .int .i64 t.op, .bool t.fl, .slice a t.subs.length cap] 28)).alloc (.cells #[.int .i64 0, .string ⟨#[]⟩, .int .i64 0, .bool false, .slice none 0 0] 28)).heap[w.heap.size + 1]? = some (.cells #[.int .i64 0, .string ⟨#[]⟩, .int .i64 0, .bool false, .slice none 0 0] 28) from by
    have := heap_alloc_new (w.alloc (.cells #[.int .i64 t.k, .string t.tx, .int .i64 t.op, .bool t.fl, .slice a t.subs.length cap] 28)) (.cells #[.int .i64 0, .string ⟨#[]⟩, .int .i64 0, .bool false, .slice none 0 0] 28)
    rwa [show (w.alloc (.cells #[.int .i64 t.k, .string t.tx, .int .i64 t.op, .bool t.fl, .slice a t.subs.length cap] 28)).heap.size = w.heap.size + 1 from by simp] at this)
  clear hf
  go_enter Tryz.func30, Tryz.ntmps30
  go_wp2_with fail
  go_loopw [5, 13] (fun v i wr => ∃ j, j ≤ t.subs.length ∧ i = .int .i64 (j : Nat) ∧ OwnT (fun k => w.heap.size + 1 < k) (w.heap.size + 1 + 1) 28 wr v ((t.subs.take j).map G) ∧ wr.heap[w.heap.size]? = some (.cells #[.int .i64 t.k, .string t.tx, .int .i64 t.op, .bool t.fl, .slice a t.subs.length cap] 28) ∧ wr.heap[w.heap.size + 1]? = some (.cells #[.int .i64 0, .string ⟨#[]⟩, .int .i64 0, .bool false, .slice none 0 0] 28) ∧ Below w.heap.size w wr) (fun _ i _ => t.subs.length - (intOf i).toNat)
  case atStart =>
    exact ⟨0, Nat.zero_le _, rfl, ownT_empty (Nat.le_refl _) (by simpa using heap_alloc_new ((w.alloc (.cells #[.int .i64 t.k, .string t.tx, .int .i64 t.op, .bool t.fl, .slice a t.subs.length cap] 28)).alloc (.cells #[.int .i64 0, .string ⟨#[]⟩, .int .i64 0, .bool false, .slice none 0 0] 28)) _), bk_allc HBX.out, bk_allc HZC.out, (below_alloc2 _ _ _).trans ((below_alloc1 _ _).mono (by simp; omega))⟩
  case round =>
    obtain ⟨j, hj, rfl, hO, hX, hZ, hB⟩ := hrel
    obtain ⟨va, vc, rfl⟩ := hO.form
    have hlen : ((t.subs.take j).map G).length = j := by simp [Nat.min_eq_left hj]
    have HLN := Lib.hid hlen
    rw [hlen] at hO ⊢
    clear hlen
    by_cases hjl : j < t.subs.length
    · obtain ⟨p, hp⟩ : ∃ p, t.subs[j]? = some p := ⟨_, List.getElem?_eq_getElem hjl⟩
      obtain ⟨b, off, u, rfl, hSb, hlt, hu, c0, c1, c2, c3, c4⟩ := (H.out.bel hB).at_ hp
      obtain ⟨ua, uc, rfl, huc⟩ := hu.form
      have HP := Lib.hid hp; clear hp
      have HD := Lib.hid (show Below wr.heap.size wr (wr.alloc (.cells #[.int .i64 p.k, .string p.tx, .int .i64 p.op, .bool p.fl, .slice ua p.subs.length uc] 28)) from below_alloc1 _ _)
      have HC1 := Lib.hid (OK.out p (List.mem_of_getElem? HP.out) _ _ _ (hu.bel HD.out)); clear hu
      obtain ⟨xs, hown, hcs⟩ := hO
      rw [HLN.out] at hown
      have HO := Lib.hid hown; clear hown
      have HC := Lib.hid hcs; clear hcs
      have HX := Lib.hid hX; have HZ := Lib.hid hZ
      have zw := heap_lt' hZ
      have HB := Lib.hid hB; clear hB hX hZ
      go_wp2_with fail
      refine HC1.out.mono ?_
      rintro e w4 ⟨⟨u4, rfl, hs4⟩, hb4⟩
      obtain ⟨a4, c4, rfl, _⟩ := hs4.form
      have z4 := hb4.size
      have z4' : wr.heap.size < w4.heap.size := by simp at z4; omega
      have HS4 := Lib.hid hs4
      have HW4 := Lib.hid (HD.out.trans (hb4.mono HD.out.size))
      have HW5 := Lib.hid (HW4.out.trans ((below_alloc2 w4 (.cells #[.int .i64 (G p).k, .string (G p).tx, .int .i64 (G p).op, .bool (G p).fl, .slice a4 (G p).subs.length c4] 28) (.cells #[.int .i64 (G p).k, .string (G p).tx, .int .i64 (G p).op, .bool (G p).fl, .slice a4 (G p).subs.length c4] 28)).mono HW4.out.size))
      have HO5 := Lib.hid (ownsRow_below HO.out HW5.out)
      have HN5 := Lib.hid (nV_one HS4.out)
      clear hs4 hb4 z4
      go_wp2_with (at_builtin; refine wpList_append_lies _ rfl (.tmp 36) (.tmp 38) 26 rfl (w.heap.size + 1 + 1) 28 i0 (.agg #[.int .i64 0, .string ByteArray.empty, .int .i64 0, .bool false, .slice none 0 0]) 5 64 Tryz.underlying26 hi0 hz0 hs0 hb0 rfl (by omega) (.slice va j vc) j xs rfl HO5.out ⟨w4.heap.size + 1, 0, none⟩ 1 1 (nV (G p) (.slice a4 (G p).subs.length c4)) rfl rfl (news_at' w4 _ _ _ _ rfl rfl) HN5.out (by omega) (by unfold maxLen; omega) (by omega) (by simp; omega) _ rfl ?_; intro g cap1 w6 hown6 hgrow6 hat6 hlt6)
      have hB5 := HB.out.trans (HW5.out.mono HB.out.size)
      have hS5 := (HS4.out.bel (below_alloc2 w4 (.cells #[.int .i64 (G p).k, .string (G p).tx, .int .i64 (G p).op, .bool (G p).fl, .slice a4 (G p).subs.length c4] 28) (.cells #[.int .i64 (G p).k, .string (G p).tx, .int .i64 (G p).op, .bool (G p).fl, .slice a4 (G p).subs.length c4] 28))).mono (T := fun k => w.heap.size + 1 < k ∧ (Value.slice va j vc).ownBlock ≠ some k) (fun k hk _ => ⟨by simp at hk; omega, fun e => by have := (HO.out.lt k e).2; simp at hk; omega⟩)
      have hO6 := OwnT.push (S := fun k => w.heap.size + 1 < k) (t := G p) (HC.out.below HW5.out) hS5 hown6 (by rw [HLN.out]) hgrow6 (by simpa using hat6)
      rw [show ([G p] : List Tr) = [p].map G from rfl, ← List.map_append, ← take_snoc HP.out] at hO6
      have HO6 := Lib.hid hO6
      have hlt := fun k hk => (HO5.out.lt k hk)
      have HB6 := Lib.hid (hB5.grown hgrow6 hB5.size (fun k hk => by have := (hlt k hk).1; omega))
      have HX6 := Lib.hid ((hgrow6.block w.heap.size (by simp; omega) (fun e => by have := (hlt _ e.symm).1; omega)).trans ((HW5.out.block w.heap.size (by omega)).trans HX.out))
      have HZ6 := Lib.hid ((hgrow6.block (w.heap.size + 1) (by simp; omega) (fun e => by have := (hlt _ e.symm).1; omega)).trans ((HW5.out.block (w.heap.size + 1) (by omega)).trans HZ.out))
      clear hB5 hS5 hO6 hown6 hgrow6 hat6 hlt
      go_wp2
      go_roundw
      case rel => exact ⟨j + 1, by omega, by go_num, HO6.out, HX6.out, HZ6.out, HB6.out⟩
      case measure => simp [intOf]; omega
    · obtain rfl : j = t.subs.length := by omega
      rw [List.take_length] at hO
      have HO := Lib.hid hO
      have HX := Lib.hid hX; have HZ := Lib.hid hZ; have HB := Lib.hid hB
      have z0 := cell_of (j := 0) hX rfl
      have z1 := cell_of (j := 1) hX rfl
      have z2 := cell_of (j := 2) hX rfl
      have z3 := cell_of (j := 3) hX rfl
      have z4 := cell_of (j := 4) hX rfl
      have z5 := fun i => unfrozen_of_block hX i
      have r0 := cell_of (j := 0) hZ rfl
      have r1 := cell_of (j := 1) hZ rfl
      have r2 := cell_of (j := 2) hZ rfl
      have r3 := cell_of (j := 3) hZ rfl
      have r4 := cell_of (j := 4) hZ rfl
      have r5 := fun i => unfrozen_of_block hZ i
      have zw := heap_lt' hZ
      have zx := heap_lt' hX
      clear hO hX hZ hB
      go_wp2
      have hZ1 : (wr.setCell ⟨w.heap.size, 4, none⟩ (.slice va t.subs.length vc)).heap[w.heap.size + 1]? = some (.cells #[.int .i64 0, .string ⟨#[]⟩, .int .i64 0, .bool false, .slice none 0 0] 28) := (Below.heap_setCell _ _ _ _ (by simp only; omega)).trans HZ.out
      have hr6 := set5_at (a := .int .i64 t.k) (b := .string t.tx) (c := .int .i64 t.op) (d := .bool t.fl) (e := .slice va t.subs.length vc) hZ1
      have v0 := cell_of (j := 0) hr6 rfl
      have v1 := cell_of (j := 1) hr6 rfl
      have v2 := cell_of (j := 2) hr6 rfl
      have v3 := cell_of (j := 3) hr6 rfl
      have v4 := cell_of (j := 4) hr6 rfl
      refine bodyPost_ret (v := .agg #[.int .i64 t.k, .string t.tx, .int .i64 t.op, .bool t.fl, .slice va t.subs.length vc]) (by simp [results, Tryz.results30, go_sem, v0, v1, v2, v3, v4]) rfl ⟨⟨_, rfl, ?_⟩, below_set5 (HB.out.setCell (p := ⟨w.heap.size, 4, none⟩) (Nat.le_refl _) _) (Nat.le_succ _)⟩
      have big : ∀ k, (w.heap.size + 1 < k ∨ (Value.slice va t.subs.length vc).ownBlock = some k) → w.heap.size + 1 < k := fun k hk => by
        rcases hk with hk | hk
        · exact hk
        · obtain ⟨xs, ho, _⟩ := HO.out
          have := (ho.lt k hk).1
          omega
      exact (HO.out.keep (fun k hk _ => (heap_set5 (g := w.heap.size + 1) (by have := big k hk; omega)).trans (Below.heap_setCell _ _ _ _ (by have := big k hk; simp only; omega)))).subs (fun k hk => by have := big k hk; show w.heap.size ≤ k; omega)
theorem mapped_un {f : Int} (hf : ¬ f = 0) (G : Tr → Tr) {k op : Int} {tx : ByteArray} {fl : Bool} {subs : List Tr} {S : Nat → Prop} {w : World} {u : Value} (hs : Subs w S subs u) (hbd : subs.length ≤ 2199023255488) (ok : ∀ s ∈ subs, ChangeOk f s (G s)) :
    Calls Tryz.prog 30 #[.agg #[.int .i64 k, .string tx, .int .i64 op, .bool fl, u], .int .i64 f] w fun e w' => (∃ a' c', e = .returned (.agg #[.int .i64 k, .string tx, .int .i64 op, .bool fl, .slice a' subs.length c']) ∧ Subs w' (fun k => w.heap.size ≤ k) (subs.map G) (.slice a' subs.length c')) ∧ Below w.heap.size w w' :=
  (mapped_any hf G (t := .mk k tx op fl subs) hs hbd ok).mono fun e w' ⟨⟨u', he, h1⟩, hb⟩ => by
    obtain ⟨a', c', rfl, _⟩ := h1.form
    refine ⟨⟨a', c', by rw [he]; simp [Tr.k, Tr.tx, Tr.op, Tr.fl, Tr.subs], ?_⟩, hb⟩
    have e1 : (Tr.mk k tx op fl (subs.map G)).subs.length = subs.length := List.length_map ..
    exact e1 ▸ h1
end Go.Proofs.YtlgajopaokjjaaaGreatFmt
