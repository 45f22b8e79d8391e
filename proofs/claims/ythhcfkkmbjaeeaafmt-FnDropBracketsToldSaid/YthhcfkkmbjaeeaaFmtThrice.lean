/-
  spec.Thrice. Conditions: spec.Tree's.
-/
import Derived.Test.YthhcfkkmbjaeeaaFmtBase
import Derived.Test.YthhcfkkmbjaeeaaFmtFit
namespace Go.Proofs.YthhcfkkmbjaeeaaFmt
open Go.ChangeShapes Go.WideShapes Go.ChangeAt Go.RowKit Go.Joins
set_option maxRecDepth 100000 in
set_option maxHeartbeats 1000000 in
theorem thrice_any (t : Tr) : Bnd 2199023255488 t → Fit t → ∀ {S : Nat → Prop} {w : World} {u : Value}, Subs w S t.subs u →
    Calls Tryf.prog 11 #[.agg #[.int .i64 t.k, .string t.tx, .int .i64 t.op, .bool t.fl, u]] w fun e w' => (∃ r, e = .returned (.bool r)) ∧ Below w.heap.size w w' := by
  induction t using Tr.ind with
  | h t ih =>
  intro hbd hok S w u hs
  obtain ⟨a, cap, rfl, hcap⟩ := hs.form
  have H := Lib.hid hs
  have IH := Lib.hid (fun s hs' {S : Nat → Prop} {w : World} {u : Value} (h : Subs w S s.subs u) => ih s hs' (hbd.sub s hs') (hok.sub s hs') h)
  have hlen := hbd.len
  by_cases h28 : t.k = 28
  · have hpos := hok.here.1 h28
    obtain ⟨s, hs0⟩ : ∃ s, t.subs[0]? = some s := ⟨_, List.getElem?_eq_getElem hpos⟩
    obtain ⟨sb, off, us, rfl, hSb, hlt, hus, c0, c1, c2, c3, c4⟩ := hs.at_ hs0
    obtain ⟨ua, uc, rfl, huc⟩ := hus.form
    have d : (t.k == 28) = true := by simp [h28]
    have ix : (0 : Int) < (t.subs.length : Int) := by omega
    simp only [Nat.zero_mul, Nat.add_zero] at c0 c1 c2 c3 c4
    by_cases k28 : s.k = 28
    · have d2 : (s.k == 28) = true := by simp [k28]
      have hpos2 := (hok.sub s (List.mem_of_getElem? hs0)).here.1 k28
      obtain ⟨x, hx0⟩ : ∃ x, s.subs[0]? = some x := ⟨_, List.getElem?_eq_getElem hpos2⟩
      obtain ⟨xb, xoff, xs, rfl, hSx, hltx, hxs, f0, f1, f2, f3, f4⟩ := hus.at_ hx0
      have ix2 : (0 : Int) < (s.subs.length : Int) := by omega
      simp only [Nat.zero_mul, Nat.add_zero] at f0 f1 f2 f3 f4
      by_cases x28 : x.k = 28
      · have d3 : (x.k == 28) = true := by simp [x28]
        clear hs hus hxs ih hbd hok h28 k28 x28
        go_enter Tryf.func11, Tryf.ntmps11
        go_wp2
        go_ret
        exact ⟨⟨_, rfl⟩, below_alloc1 _ _⟩
      · have d3 : (x.k == 28) = false := by simp [x28]
        clear hs hus hxs ih hbd hok h28 k28 x28
        go_enter Tryf.func11, Tryf.ntmps11
        go_wp2_with fail
        go_loopw [30] (fun i wr => ∃ j, j ≤ t.subs.length ∧ i = .int .i64 (j : Nat) ∧ Below w.heap.size w wr) (fun i _ => t.subs.length - (intOf i).toNat)
        case atStart => exact ⟨0, Nat.zero_le _, rfl, below_alloc1 _ _⟩
        case round =>
          obtain ⟨j, hj, rfl, hB⟩ := hrel
          by_cases hjl : j < t.subs.length
          · obtain ⟨p, hp⟩ : ∃ p, t.subs[j]? = some p := ⟨_, List.getElem?_eq_getElem hjl⟩
            obtain ⟨pb, poff, pu, ep, hSp, hltp, hpu, e0, e1, e2, e3, e4⟩ := (H.out.bel hB).at_ hp
            first | injection ep with ep | skip
            first | subst ep | (obtain ⟨rfl, rfl⟩ := ep)
            obtain ⟨pa, pc, rfl, _⟩ := hpu.form
            have HD := Lib.hid (below_alloc1 wr (.cells #[.int .i64 p.k, .string p.tx, .int .i64 p.op, .bool p.fl, .slice pa p.subs.length pc] 28))
            have C := Lib.hid (IH.out p (List.mem_of_getElem? hp) (hpu.bel HD.out))
            have HB := Lib.hid hB
            clear hB hp hpu
            go_wp2_with fail
            refine C.out.mono ?_
            rintro e w4 ⟨⟨r, rfl⟩, hb4⟩
            have HB4 := Lib.hid (HB.out.trans ((HD.out.trans (hb4.mono HD.out.size)).mono HB.out.size))
            clear hb4
            cases r
            · go_wp2
              go_roundw
              case rel => exact ⟨j + 1, by omega, by go_num, HB4.out⟩
              case measure => simp [intOf]; omega
            · go_wp2
              go_ret
              exact ⟨⟨_, rfl⟩, HB4.out⟩
          · obtain rfl : j = t.subs.length := by omega
            go_wp2
            go_ret
            exact ⟨⟨_, rfl⟩, hB⟩
    · have d2 : (s.k == 28) = false := by simp [k28]
      clear hs hus ih hbd hok h28 k28
      go_enter Tryf.func11, Tryf.ntmps11
      go_wp2_with fail
      go_loopw [30] (fun i wr => ∃ j, j ≤ t.subs.length ∧ i = .int .i64 (j : Nat) ∧ Below w.heap.size w wr) (fun i _ => t.subs.length - (intOf i).toNat)
      case atStart => exact ⟨0, Nat.zero_le _, rfl, below_alloc1 _ _⟩
      case round =>
        obtain ⟨j, hj, rfl, hB⟩ := hrel
        by_cases hjl : j < t.subs.length
        · obtain ⟨p, hp⟩ : ∃ p, t.subs[j]? = some p := ⟨_, List.getElem?_eq_getElem hjl⟩
          obtain ⟨pb, poff, pu, ep, hSp, hltp, hpu, e0, e1, e2, e3, e4⟩ := (H.out.bel hB).at_ hp
          first | injection ep with ep | skip
          first | subst ep | (obtain ⟨rfl, rfl⟩ := ep)
          obtain ⟨pa, pc, rfl, _⟩ := hpu.form
          have HD := Lib.hid (below_alloc1 wr (.cells #[.int .i64 p.k, .string p.tx, .int .i64 p.op, .bool p.fl, .slice pa p.subs.length pc] 28))
          have C := Lib.hid (IH.out p (List.mem_of_getElem? hp) (hpu.bel HD.out))
          have HB := Lib.hid hB
          clear hB hp hpu
          go_wp2_with fail
          refine C.out.mono ?_
          rintro e w4 ⟨⟨r, rfl⟩, hb4⟩
          have HB4 := Lib.hid (HB.out.trans ((HD.out.trans (hb4.mono HD.out.size)).mono HB.out.size))
          clear hb4
          cases r
          · go_wp2
            go_roundw
            case rel => exact ⟨j + 1, by omega, by go_num, HB4.out⟩
            case measure => simp [intOf]; omega
          · go_wp2
            go_ret
            exact ⟨⟨_, rfl⟩, HB4.out⟩
        · obtain rfl : j = t.subs.length := by omega
          go_wp2
          go_ret
          exact ⟨⟨_, rfl⟩, hB⟩
  · have d : (t.k == 28) = false := by simp [h28]
    clear hs ih hbd hok h28
    go_enter Tryf.func11, Tryf.ntmps11
    go_wp2_with fail
    go_loopw [30] (fun i wr => ∃ j, j ≤ t.subs.length ∧ i = .int .i64 (j : Nat) ∧ Below w.heap.size w wr) (fun i _ => t.subs.length - (intOf i).toNat)
    case atStart => exact ⟨0, Nat.zero_le _, rfl, below_alloc1 _ _⟩
    case round =>
      obtain ⟨j, hj, rfl, hB⟩ := hrel
      by_cases hjl : j < t.subs.length
      · obtain ⟨p, hp⟩ : ∃ p, t.subs[j]? = some p := ⟨_, List.getElem?_eq_getElem hjl⟩
        obtain ⟨pb, poff, pu, ep, hSp, hltp, hpu, e0, e1, e2, e3, e4⟩ := (H.out.bel hB).at_ hp
        first | injection ep with ep | skip
        first | subst ep | (obtain ⟨rfl, rfl⟩ := ep)
        obtain ⟨pa, pc, rfl, _⟩ := hpu.form
        have HD := Lib.hid (below_alloc1 wr (.cells #[.int .i64 p.k, .string p.tx, .int .i64 p.op, .bool p.fl, .slice pa p.subs.length pc] 28))
        have C := Lib.hid (IH.out p (List.mem_of_getElem? hp) (hpu.bel HD.out))
        have HB := Lib.hid hB
        clear hB hp hpu
        go_wp2_with fail
        refine C.out.mono ?_
        rintro e w4 ⟨⟨r, rfl⟩, hb4⟩
        have HB4 := Lib.hid (HB.out.trans ((HD.out.trans (hb4.mono HD.out.size)).mono HB.out.size))
        clear hb4
        cases r
        · go_wp2
          go_roundw
          case rel => exact ⟨j + 1, by omega, by go_num, HB4.out⟩
          case measure => simp [intOf]; omega
        · go_wp2
          go_ret
          exact ⟨⟨_, rfl⟩, HB4.out⟩
      · obtain rfl : j = t.subs.length := by omega
        go_wp2
        go_ret
        exact ⟨⟨_, rfl⟩, hB⟩
end Go.Proofs.YthhcfkkmbjaeeaaFmt
