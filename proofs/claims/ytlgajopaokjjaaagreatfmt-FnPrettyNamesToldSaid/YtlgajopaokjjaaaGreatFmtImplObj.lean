/-
  impl.tree, of objects; and of every tree of which something is stated. Conditions: spec.Tree's.
-/
import Derived.Test.YtlgajopaokjjaaaGreatFmtImplTree5
import Derived.Test.YtlgajopaokjjaaaGreatFmtBase
import Derived.Test.YtlgajopaokjjaaaGreatFmtObjReg
namespace Go.Proofs.YtlgajopaokjjaaaGreatFmt
open Go.ChangeShapes Go.WideShapes Go.ChangeAt Go.RowKit Go.Joins

/-- A field is made: its block, and what it holds. -/
def FieldDone (A : Nat) (v : Value) (wr : World) (p : Tr) (wx : World) : Prop :=
  ∃ (a1 a6 a7 : Value) (kk : Int) (F : Fld) (S1 S2 : Nat → Prop), wx.heap[wr.heap.size + 1]? = some (.cells #[.pointer none, a1, .slice none 0 0, .slice none 0 0, .slice none 0 0, .slice none 0 0, a6, a7, .nilIface, .pointer none, .string ByteArray.empty, .int .i64 0, .int .i64 0, .int .i64 0, .int .i64 0, .int .i64 kk, .int .i64 p.op, .bool p.fl] 155) ∧ (a1.oneCell' = true ∧ a6.oneCell' = true ∧ a7.oneCell' = true) ∧
    FOne wx (fun k => A < k ∧ v.ownBlock ≠ some k) wr.heap.size wx.heap.size F S1 S2 p (fun j => (#[.pointer none, a1, .slice none 0 0, .slice none 0 0, .slice none 0 0, .slice none 0 0, a6, a7, .nilIface, .pointer none, .string ByteArray.empty, .int .i64 0, .int .i64 0, .int .i64 0, .int .i64 0, .int .i64 kk, .int .i64 p.op, .bool p.fl] : Array Value).toList[j]?) ∧ Below wr.heap.size wr wx
set_option maxRecDepth 100000 in
set_option maxHeartbeats 60000000 in
theorem object_any (l : List Tr) (hl : l.length ≤ 6) (hf : ∀ s ∈ l, 0 ≤ s.op ∧ s.op ≤ 2 ∧ ((∃ t, s = .mk 37 s.tx s.op s.fl [t]) ∨ ∃ tx o t, (0 ≤ o ∧ o ≤ 4) ∧ s = .mk 39 ByteArray.empty s.op s.fl [.mk 4 tx o false [], t]))
    (TT : ∀ s ∈ l, ∀ u, s.subs.getLast? = some u → TreeOk u) {S : Nat → Prop} {w : World} {a : Option Addr} {cap : Nat} (hs : Subs w S l (.slice a l.length cap)) :
    Calls Tryz.prog 19 #[.agg #[.int .i64 20, .string ByteArray.empty, .int .i64 0, .bool false, .slice a l.length cap]] w fun e w' => AstBack w (.mk 20 ByteArray.empty 0 false l) e w' ∧ Below w.heap.size w w' := by
  obtain ⟨i0, hi0, hz0, hs0, hb0⟩ := info_parts infoOF
  have HS := Lib.hid hs; clear hs
  have HT := Lib.hid TT; clear TT
  have HFF := Lib.hid hf; clear hf
  go_enter Tryz.func19, Tryz.ntmps19
  go_wp2
  go_loopw [13] (fun i wr => ∃ j v, j ≤ l.length ∧ i = .int .i64 (j : Nat) ∧
      wr.heap[w.heap.size + 1]? = some (.cells #[v, .slice none 0 0, .slice none 0 0, .pointer none, .slice none 0 0, .pointer none, .string ByteArray.empty, .int .i64 0, .int .i64 0, .int .i64 0, .int .i64 0, .bool false] 133) ∧
      (∃ xs, wr.ownsRow (w.heap.size + 1 + 1) 155 18 v j xs ∧ FElems wr (fun k => w.heap.size + 1 < k ∧ v.ownBlock ≠ some k) (l.take j) xs) ∧ Below w.heap.size w wr) (fun i _ => l.length - (intOf i).toNat)
  case atStart =>
    exact ⟨0, .slice none 0 0, Nat.zero_le _, rfl, alloc_at _ _ _ (by simp), ⟨[], ⟨rfl, .inl ⟨rfl, rfl⟩⟩, felems_nil _ _⟩, below_alloc2 _ _ _⟩
  case round =>
    obtain ⟨j, v, hj, rfl, hA, ⟨xs, hown, hE⟩, hB⟩ := hrel
    have HA := Lib.hid hA
    have zA : w.heap.size + 1 < wr.heap.size := heap_lt hA
    obtain ⟨va, vc, rfl⟩ : ∃ va vc, v = .slice va j vc := by
      rcases hown.2 with ⟨rfl, h0⟩ | ⟨g, c, cur, rfl, _⟩
      · exact ⟨none, 0, by rw [h0]⟩
      · exact ⟨_, c, rfl⟩
    have y1 : wr.cell? ⟨w.heap.size + 1, 0, none⟩ = some (.slice va j vc) := cell_of hA rfl
    have y2 : ∀ i, wr.frozen? ⟨w.heap.size + 1, i, none⟩ = false := fun i => unfrozen_of_block hA i
    clear hA
    have HO := Lib.hid hown; clear hown
    have HE := Lib.hid hE; clear hE
    by_cases hjl : j < l.length
    · obtain ⟨p, hp⟩ : ∃ p, l[j]? = some p := ⟨_, List.getElem?_eq_getElem hjl⟩
      have HP := Lib.hid hp; clear hp
      obtain ⟨be, off, ue, ea, _, _, hue, c0, c1, c2, c3, c4⟩ := (HS.out.bel hB).at_ HP.out
      subst ea
      obtain ⟨ua, uc, rfl, _⟩ := hue.form
      have HUE := Lib.hid hue; clear hue
      go_upto_if 24 with fail
      clear c0 c1 c2 c3 c4
      go_cut [] (fun wx => FieldDone (w.heap.size + 1) (.slice va j vc) wr p wx)
      case first =>
        rcases (HFF.out p (List.mem_of_getElem? HP.out)).2.2 with hcase | hcase
        · obtain ⟨tx, op, fl, t, rfl⟩ : ∃ tx op fl t, p = .mk 37 tx op fl [t] := ⟨_, _, _, _, hcase.choose_spec⟩
          clear hcase
          simp only [Tr.k, Tr.tx, Tr.op, Tr.fl, Tr.subs, List.length_cons, List.length_nil, Nat.zero_add] at HUE ⊢
          have HTp := Lib.hid (HT.out _ (List.mem_of_getElem? HP.out) t rfl)
          have hC := below_alloc3 wr (.cells #[.int .i64 37, .string tx, .int .i64 op, .bool fl, .slice ua 1 uc] 24) (.cells #[.pointer none, .pointer (some ⟨wr.heap.size + 1 + 1, 0, none⟩), .slice none 0 0, .slice none 0 0, .slice none 0 0, .slice none 0 0, .nilIface, .nilIface, .nilIface, .pointer none, .string ByteArray.empty, .int .i64 0, .int .i64 0, .int .i64 0, .int .i64 0, .int .i64 1, .int .i64 op, .bool fl] 155) (.cells #[.string tx] 92)
          have HF3 := Lib.hid ((Below.heap_alloc ((wr.alloc (.cells #[.int .i64 37, .string tx, .int .i64 op, .bool fl, .slice ua 1 uc] 24)).alloc (.cells #[.pointer none, .pointer (some ⟨wr.heap.size + 1 + 1, 0, none⟩), .slice none 0 0, .slice none 0 0, .slice none 0 0, .slice none 0 0, .nilIface, .nilIface, .nilIface, .pointer none, .string ByteArray.empty, .int .i64 0, .int .i64 0, .int .i64 0, .int .i64 0, .int .i64 1, .int .i64 op, .bool fl] 155)) (.cells #[.string tx] 92) (wr.heap.size + 1) (by simp)).trans (alloc_at (wr.alloc (.cells #[.int .i64 37, .string tx, .int .i64 op, .bool fl, .slice ua 1 uc] 24)) (.cells #[.pointer none, .pointer (some ⟨wr.heap.size + 1 + 1, 0, none⟩), .slice none 0 0, .slice none 0 0, .slice none 0 0, .slice none 0 0, .nilIface, .nilIface, .nilIface, .pointer none, .string ByteArray.empty, .int .i64 0, .int .i64 0, .int .i64 0, .int .i64 0, .int .i64 1, .int .i64 op, .bool fl] 155) (wr.heap.size + 1) (by simp)))
          have HN3 := Lib.hid (alloc_at ((wr.alloc (.cells #[.int .i64 37, .string tx, .int .i64 op, .bool fl, .slice ua 1 uc] 24)).alloc (.cells #[.pointer none, .pointer (some ⟨wr.heap.size + 1 + 1, 0, none⟩), .slice none 0 0, .slice none 0 0, .slice none 0 0, .slice none 0 0, .nilIface, .nilIface, .nilIface, .pointer none, .string ByteArray.empty, .int .i64 0, .int .i64 0, .int .i64 0, .int .i64 0, .int .i64 1, .int .i64 op, .bool fl] 155)) (.cells #[.string tx] 92) (wr.heap.size + 1 + 1) (by simp))
          have HU := Lib.hid (HUE.out.bel hC); clear HUE
          go_wp2_with fail
          refine (sub_mk (k := 37) (tx := tx) (op := op) (fl := fl) (l := [t]) HTp.out 0 0 rfl rfl HU.out).mono ?_
          rintro e w4 ⟨⟨y, b, rfl, hA4⟩, hb4⟩
          have HA4 := Lib.hid (hA4.mono (T := fun k => wr.heap.size + 1 + 1 < k ∧ k < w4.heap.size) (fun k hk _ => ⟨by have := hk.1; simp at this; omega, hk.2⟩)); clear hA4
          have HF4 := Lib.hid ((hb4.block (wr.heap.size + 1) (by simp)).trans HF3.out)
          have HN4 := Lib.hid ((hb4.block (wr.heap.size + 1 + 1) (by simp)).trans HN3.out)
          have HB5 := Lib.hid ((hC.trans (hb4.mono hC.size)).setCell (p := ⟨wr.heap.size + 1, 7, none⟩) (by simp only; omega) (.iface y (.pointer (some ⟨b, 0, none⟩))))
          clear hC hb4
          have zN := heap_lt HN4.out
          have q1 := cell_of (j := 7) HF4.out rfl
          have q2 := fun i => unfrozen_of_block HF4.out i
          go_wp2_with fail
          go_meet
          have zs5 : (w4.setCell ⟨wr.heap.size + 1, 7, none⟩ (.iface y (.pointer (some ⟨b, 0, none⟩)))).heap.size = w4.heap.size := by simp [World.setCell]
          exact ⟨.pointer (some ⟨wr.heap.size + 1 + 1, 0, none⟩), .nilIface, .iface y (.pointer (some ⟨b, 0, none⟩)), 1, ⟨0, 0, y, b, some (wr.heap.size + 1 + 1), none, none, none, none, 0, 0, 0, 0⟩, fun _ => False, fun k => wr.heap.size + 1 + 1 < k ∧ k < w4.heap.size, by simp [World.setCell, Array.getElem?_modify, HF4.out, Tr.op, Tr.fl], ⟨rfl, rfl, rfl⟩,
            { row := .inl ⟨wr.heap.size + 1 + 1, t, rfl, rfl, (Below.heap_setCell _ _ _ _ (by simp only; omega)).trans HN4.out, fun j v hv => hv⟩
              range := fun k hk => by
                have own : ∀ k, wr.heap.size ≤ k → (Value.slice va j vc).ownBlock ≠ some k := fun k hk e => by have := (HO.out.lt k e).2; omega
                rcases hk with hk | hk | hk
                · exact hk.elim
                · exact ⟨by omega, by rw [zs5]; omega, by omega, own k (by omega)⟩
                · obtain rfl : wr.heap.size + 1 + 1 = k := by simpa using hk
                  exact ⟨by omega, by rw [zs5]; omega, by omega, own _ (by omega)⟩
              d12 := fun k hk => hk.elim
              did := fun k hk h => by
                obtain rfl : wr.heap.size + 1 + 1 = k := by simpa using hk
                rcases h with h | h
                · exact h
                · omega
              a1 := fun k op fl t1 t2 e => by injection e with _ _ _ _ e; injection e with _ e; cases e
              a2 := fun u e => by
                obtain rfl : t = u := by simpa [Tr.subs] using e
                exact HA4.out.keep (fun _ h _ => h) (fun k hk _ => Below.heap_setCell _ _ _ _ (by simp only; omega)) }, HB5.out⟩
        · obtain ⟨tx, o, op, fl, t, h04, rfl⟩ : ∃ tx o op fl t, (0 ≤ o ∧ o ≤ 4) ∧ p = .mk 39 ByteArray.empty op fl [.mk 4 tx o false [], t] := by
            obtain ⟨tx, o, t, h1, h2⟩ := hcase
            exact ⟨tx, o, _, _, t, h1, h2⟩
          clear hcase
          simp only [Tr.k, Tr.tx, Tr.op, Tr.fl, Tr.subs, List.length_cons, List.length_nil, Nat.zero_add] at HUE ⊢
          have HTp := Lib.hid (HT.out _ (List.mem_of_getElem? HP.out) t rfl)
          have HTs := Lib.hid (tree_str tx o)
          have hC := below_alloc2 wr (.cells #[.int .i64 39, .string ByteArray.empty, .int .i64 op, .bool fl, .slice ua 2 uc] 24) (.cells #[.pointer none, .pointer none, .slice none 0 0, .slice none 0 0, .slice none 0 0, .slice none 0 0, .nilIface, .nilIface, .nilIface, .pointer none, .string ByteArray.empty, .int .i64 0, .int .i64 0, .int .i64 0, .int .i64 0, .int .i64 3, .int .i64 op, .bool fl] 155)
          have HF3 := Lib.hid (alloc_at (wr.alloc (.cells #[.int .i64 39, .string ByteArray.empty, .int .i64 op, .bool fl, .slice ua 2 uc] 24)) (.cells #[.pointer none, .pointer none, .slice none 0 0, .slice none 0 0, .slice none 0 0, .slice none 0 0, .nilIface, .nilIface, .nilIface, .pointer none, .string ByteArray.empty, .int .i64 0, .int .i64 0, .int .i64 0, .int .i64 0, .int .i64 3, .int .i64 op, .bool fl] 155) (wr.heap.size + 1) (by simp))
          have HX3 := Lib.hid ((box5_new0 wr (.int .i64 39) (.string ByteArray.empty) (.int .i64 op) (.bool fl) (.slice ua 2 uc) 24).below (below_alloc1 (wr.alloc (.cells #[.int .i64 39, .string ByteArray.empty, .int .i64 op, .bool fl, .slice ua 2 uc] 24)) (.cells #[.pointer none, .pointer none, .slice none 0 0, .slice none 0 0, .slice none 0 0, .slice none 0 0, .nilIface, .nilIface, .nilIface, .pointer none, .string ByteArray.empty, .int .i64 0, .int .i64 0, .int .i64 0, .int .i64 0, .int .i64 3, .int .i64 op, .bool fl] 155)))
          have HU := Lib.hid (HUE.out.bel hC)
          have HUB := Lib.hid (HUE.out.mono (T := fun k => k < wr.heap.size) (fun _ _ h => h)); clear HUE
          go_wp2_with fail
          refine (sub_mk (k := 39) (tx := ByteArray.empty) (op := op) (fl := fl) (l := [.mk 4 tx o false [], t]) HTs.out 0 0 rfl rfl HU.out).mono ?_
          rintro e w4 ⟨⟨y1, b1, rfl, hA4⟩, hb4⟩
          have HA4 := Lib.hid (hA4.mono (T := fun k => wr.heap.size + 1 < k ∧ k < w4.heap.size) (fun k hk _ => ⟨by have := hk.1; simp at this; omega, hk.2⟩)); clear hA4
          have HF4 := Lib.hid ((hb4.block (wr.heap.size + 1) (by simp)).trans HF3.out)
          have hB6 := (hC.trans (hb4.mono hC.size)).setCell (p := ⟨wr.heap.size + 1, 6, none⟩) (by simp only; omega) (.iface y1 (.pointer (some ⟨b1, 0, none⟩)))
          have HX4 := Lib.hid (HX3.out.below hb4)
          obtain ⟨⟨x0, x1, x2, x3, x4⟩, xl⟩ := HX4.out
          have HU6 := Lib.hid (HUB.out.keep (w' := (w4.setCell ⟨wr.heap.size + 1, 6, none⟩ (.iface y1 (.pointer (some ⟨b1, 0, none⟩))))) (T := fun k => k < wr.heap.size) (fun _ h _ => h) (fun k hk _ => hB6.block k hk))
          have HF6 := Lib.hid (show (w4.setCell ⟨wr.heap.size + 1, 6, none⟩ (.iface y1 (.pointer (some ⟨b1, 0, none⟩)))).heap[wr.heap.size + 1]? = some (.cells #[.pointer none, .pointer none, .slice none 0 0, .slice none 0 0, .slice none 0 0, .slice none 0 0, .iface y1 (.pointer (some ⟨b1, 0, none⟩)), .nilIface, .nilIface, .pointer none, .string ByteArray.empty, .int .i64 0, .int .i64 0, .int .i64 0, .int .i64 0, .int .i64 3, .int .i64 op, .bool fl] 155) from by simp [World.setCell, Array.getElem?_modify, HF4.out])
          have HA6 := Lib.hid (HA4.out.keep (w' := (w4.setCell ⟨wr.heap.size + 1, 6, none⟩ (.iface y1 (.pointer (some ⟨b1, 0, none⟩))))) (T := fun k => wr.heap.size + 1 < k ∧ k < w4.heap.size) (fun _ h _ => h) (fun k hk _ => Below.heap_setCell _ _ _ _ (by simp only; omega)))
          have zs6 : (w4.setCell ⟨wr.heap.size + 1, 6, none⟩ (.iface y1 (.pointer (some ⟨b1, 0, none⟩)))).heap.size = w4.heap.size := by simp [World.setCell]
          have zN := heap_lt HF4.out
          have q1 := cell_of (j := 6) HF4.out rfl
          have q2 := fun i => unfrozen_of_block HF4.out i
          have HB6 := Lib.hid hB6
          clear hB6 hC hb4
          go_wp2_with fail
          refine (sub_mk (k := 39) (tx := ByteArray.empty) (op := op) (fl := fl) (l := [.mk 4 tx o false [], t]) HTp.out 1 1 rfl rfl HU6.out).mono ?_
          rintro e w7 ⟨⟨y2, b2, rfl, hA7⟩, hb7⟩
          have HA7 := Lib.hid (hA7.mono (T := fun k => w4.heap.size ≤ k ∧ k < w7.heap.size) (fun k hk _ => ⟨by have := hk.1; rw [zs6] at this; exact this, hk.2⟩)); clear hA7
          have HF7 := Lib.hid ((hb7.block (wr.heap.size + 1) (by rw [zs6]; exact zN)).trans HF6.out)
          have HA1 := Lib.hid (HA6.out.bel hb7)
          have zs7 : w4.heap.size ≤ w7.heap.size := by have := hb7.size; rw [zs6] at this; exact this
          have HB8 := Lib.hid ((HB6.out.trans (hb7.mono HB6.out.size)).setCell (p := ⟨wr.heap.size + 1, 7, none⟩) (by simp only; omega) (.iface y2 (.pointer (some ⟨b2, 0, none⟩))))
          clear hb7 x0 x1 x2 x3 x4 q1 q2
          have q1 := cell_of (j := 7) HF7.out rfl
          have q2 := fun i => unfrozen_of_block HF7.out i
          go_wp2_with fail
          go_meet
          have zs8 : (w7.setCell ⟨wr.heap.size + 1, 7, none⟩ (.iface y2 (.pointer (some ⟨b2, 0, none⟩)))).heap.size = w7.heap.size := by simp [World.setCell]
          exact ⟨.pointer none, .iface y1 (.pointer (some ⟨b1, 0, none⟩)), .iface y2 (.pointer (some ⟨b2, 0, none⟩)), 3, ⟨y1, b1, y2, b2, none, none, none, none, none, 0, 0, 0, 0⟩, fun k => wr.heap.size + 1 < k ∧ k < w4.heap.size, fun k => w4.heap.size ≤ k ∧ k < w7.heap.size, by simp [World.setCell, Array.getElem?_modify, HF7.out, Tr.op, Tr.fl], ⟨rfl, rfl, rfl⟩,
            { row := .inr ⟨.mk 4 tx o false [], t, rfl, rfl, fun j v hv => hv⟩
              range := fun k hk => by
                have own : ∀ k, wr.heap.size ≤ k → (Value.slice va j vc).ownBlock ≠ some k := fun k hk e => by have := (HO.out.lt k e).2; omega
                rcases hk with hk | hk | hk
                · exact ⟨by omega, by rw [zs8]; omega, by omega, own k (by omega)⟩
                · exact ⟨by omega, by rw [zs8]; omega, by omega, own k (by omega)⟩
                · cases hk
              d12 := fun k hk hk' => by omega
              did := fun k hk h => by cases hk
              a1 := fun k op fl t1 t2 e => by
                injection e with _ _ _ _ e
                injection e with e _
                subst e
                exact HA1.out.keep (fun _ h _ => h) (fun k hk _ => Below.heap_setCell _ _ _ _ (by simp only; omega))
              a2 := fun u e => by
                obtain rfl : t = u := by simpa [Tr.subs] using e
                exact HA7.out.keep (fun _ h _ => h) (fun k hk _ => Below.heap_setCell _ _ _ _ (by simp only; omega)) }, HB8.out⟩
      case rest =>
        obtain ⟨a1, a6, a7, kk, F, S1, S2, hF5, h1c, hF1, hB5⟩ := hcut
        have HF5 := Lib.hid hF5; have HF1 := Lib.hid hF1; have HB5 := Lib.hid hB5
        have HON := Lib.hid (show ∀ u ∈ ([.pointer none, a1, .slice none 0 0, .slice none 0 0, .slice none 0 0, .slice none 0 0, a6, a7, .nilIface, .pointer none, .string ByteArray.empty, .int .i64 0, .int .i64 0, .int .i64 0, .int .i64 0, .int .i64 kk, .int .i64 p.op, .bool p.fl] : List Value), u.oneCell' = true from fun u hu => by
          simp only [List.mem_cons, List.not_mem_nil, or_false] at hu
          rcases hu with rfl | rfl | rfl | rfl | rfl | rfl | rfl | rfl | rfl | rfl | rfl | rfl | rfl | rfl | rfl | rfl | rfl | rfl <;> first | rfl | exact h1c.1 | exact h1c.2.1 | exact h1c.2.2)
        have zA5 : w.heap.size + 1 < wc.heap.size := by have := hB5.size; omega
        have zz : wr.heap.size + 1 < wc.heap.size := heap_lt hF5
        clear hF5 h1c hF1 hB5
        have HAc := Lib.hid ((HB5.out.block _ zA).trans HA.out)
        have HOc := Lib.hid (ownsRow_below HO.out HB5.out)
        have HZ := Lib.hid (And.intro hj zA)
        go_wp2_with fail
        refine obj_append_then (A := w.heap.size + 1) (B := wr.heap.size + 1) (base := w.heap.size + 1 + 1) HAc.out rfl HF5.out HON.out (by omega) HOc.out (by omega) (by omega) (by omega) (fun e => by have := (HO.out.lt _ e).2; omega) ?_
        intro g cap1 w6 u38 u39 u40 u41 u42 u43 u44 u45 u46 u47 hown6 hgrow6 hat6
        have HG6 := Lib.hid hgrow6; have HO6 := Lib.hid hown6; have HT6 := Lib.hid hat6
        clear hgrow6 hown6 hat6
        have HD5 := Lib.hid (HB5.out.trans (((Below.refl wc.heap.size wc).alloc (Nat.le_refl _) (.cells #[.pointer none, a1, .slice none 0 0, .slice none 0 0, .slice none 0 0, .slice none 0 0, a6, a7, .nilIface, .pointer none, .string ByteArray.empty, .int .i64 0, .int .i64 0, .int .i64 0, .int .i64 0, .int .i64 kk, .int .i64 p.op, .bool p.fl] 155)).drew.mono HB5.out.size))
        have HA6 := Lib.hid ((HG6.out.block (w.heap.size + 1) (by simp; omega) (fun e => by have := (HO.out.lt _ e.symm).1; omega)).trans ((HD5.out.block _ zA).trans HA.out))
        have hB5 := hB.trans (HD5.out.mono hB.size)
        have hg : w.heap.size + 1 + 1 ≤ g := (HO6.out.lt g rfl).1
        have hE5 := HE.out.push HB5.out rfl HF1.out
        rw [← take_snoc HP.out] at hE5
        have hE7 := Lib.hid (hE5.keep (w' := w6.setCell ⟨w.heap.size + 1, 0, none⟩ (.slice (some ⟨g, 0, none⟩) (j + 1) cap1)) (T := fun k => w.heap.size + 1 < k ∧ (Value.slice (some ⟨g, 0, none⟩) (j + 1) cap1).ownBlock ≠ some k) (fun k hk hl => ⟨hk.1, fun e => by
            have e2 : g = k := by simpa [Value.ownBlock] using e
            rcases HT6.out with h | h
            · exact hk.2 (by rw [h, e2])
            · omega⟩) (fun k hk hl => (Below.heap_setCell _ _ _ _ (by simp only; omega)).trans ((HG6.out.block k (by simp; omega) (fun e => hk.2 e.symm)).trans (Below.heap_alloc _ _ _ hl))) (by have := HG6.out.size; simp [World.setCell] at this ⊢; omega))
        have hO7 := Lib.hid (ownsRow_keep (w' := w6.setCell ⟨w.heap.size + 1, 0, none⟩ (.slice (some ⟨g, 0, none⟩) (j + 1) cap1)) HO6.out (fun k hk => Below.heap_setCell _ _ _ _ (by
            have e2 : g = k := by simpa [Value.ownBlock] using hk
            exact fun e => by simp only at e; omega)))
        have hB6 := hB5.grown HG6.out hB5.size (fun k hk => by have := (HO.out.lt k hk).1; omega)
        have hB7 := Lib.hid (hB6.setCell (p := ⟨w.heap.size + 1, 0, none⟩) (by simp only; omega) (.slice (some ⟨g, 0, none⟩) (j + 1) cap1))
        have hA7 := Lib.hid (show (w6.setCell ⟨w.heap.size + 1, 0, none⟩ (.slice (some ⟨g, 0, none⟩) (j + 1) cap1)).heap[w.heap.size + 1]? = some (.cells #[.slice (some ⟨g, 0, none⟩) (j + 1) cap1, .slice none 0 0, .slice none 0 0, .pointer none, .slice none 0 0, .pointer none, .string ByteArray.empty, .int .i64 0, .int .i64 0, .int .i64 0, .int .i64 0, .bool false] 133) from by simp [World.setCell, Array.getElem?_modify, HA6.out])
        clear hB5 hB6 hE5
        go_wp2
        go_roundw
        case rel => exact ⟨j + 1, _, by omega, by go_num, hA7.out, ⟨_, hO7.out, hE7.out⟩, hB7.out⟩
        case measure => simp [intOf]; omega
    · obtain rfl : j = l.length := by omega
      rw [List.take_length] at HE
      have HBB := Lib.hid hB
      go_wp2
      go_ret
      exact ⟨⟨_, _, rfl, FElems.object HE.out HO.out (fun k hk => hk) (fun k h1 h2 => ⟨by omega, h2⟩) HA.out⟩, HBB.out⟩
end Go.Proofs.YtlgajopaokjjaaaGreatFmt
