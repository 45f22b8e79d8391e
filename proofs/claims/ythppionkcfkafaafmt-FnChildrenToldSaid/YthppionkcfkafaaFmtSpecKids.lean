/-
  spec.Children: what is right below a node, arguments opened. Conditions: the lengths of its lists; an argument has something below it.
-/
import Derived.Test.YthppionkcfkafaaFmtLawsTree
import Derived.Deep.AppendLies
namespace Go.Proofs.YthppionkcfkafaaFmt
open Go.ChangeShapes Go.WideShapes Go.ChangeAt Go.RowKit Go.Joins

/-- An argument, opened. -/
def unarg (s : Tr) : Tr := if s.k = 32 then s.subs.headD s else s
/-- A list of nodes. -/
def SeenBack (l : List Tr) (e : Ending) (w' : World) : Prop := ∃ v, e = .returned v ∧ Subs w' (fun _ => True) l v
theorem news_at (w : World) (o : Obj) (cs : Array Value) (t : TypeId) (g : Nat) (hg : g = w.heap.size + 1) {l : List Value} (hl : l = cs.toList) : ∀ j u, l[j]? = some u → ((w.alloc o).alloc (.cells cs t)).cell? ((⟨g, 0, none⟩ : Addr).add j) = some u := by
  subst hl
  have e : g = (w.alloc o).heap.size := by simpa using hg
  subst e
  exact World.news_of_block (heap_alloc_new _ _)
set_option maxRecDepth 100000 in
set_option maxHeartbeats 4000000 in
theorem kids_any {t : Tr} {S : Nat → Prop} {w : World} {u : Value} (hs : Subs w S t.subs u) (hbd : t.subs.length ≤ 2199023255488) (h32 : ∀ s ∈ t.subs, s.k = 32 → 0 < s.subs.length) :
    Calls Tryf.prog 12 #[.agg #[.int .i64 t.k, .string t.tx, .int .i64 t.op, .bool t.fl, u]] w fun e w' => SeenBack (t.subs.map unarg) e w' ∧ Below w.heap.size w w' := by
  obtain ⟨a, cap, rfl, hcap⟩ := hs.form
  obtain ⟨i0, hi0, hz0, hs0, hb0⟩ := info_parts infoSN
  have H := Lib.hid (hs.mono (T := fun k => k < w.heap.size) (fun _ _ h => h)); clear hs
  have H32 := Lib.hid h32; clear h32
  have hB0 := below_alloc1 w (.cells #[.int .i64 t.k, .string t.tx, .int .i64 t.op, .bool t.fl, .slice a t.subs.length cap] 28)
  have HB0 := Lib.hid hB0; clear hB0
  go_enter Tryf.func12, Tryf.ntmps12
  go_wp2_with fail
  go_loopw [3, 10] (fun v i wr => ∃ j, j ≤ t.subs.length ∧ i = .int .i64 (j : Nat) ∧ OwnT (fun k => k < w.heap.size) (w.heap.size + 1) 28 wr v ((t.subs.take j).map unarg) ∧ Below w.heap.size w wr) (fun _ i _ => t.subs.length - (intOf i).toNat)
  case atStart =>
    exact ⟨0, Nat.zero_le _, rfl, ownT_empty (by omega) (by simpa using heap_alloc_new (w.alloc (.cells #[.int .i64 t.k, .string t.tx, .int .i64 t.op, .bool t.fl, .slice a t.subs.length cap] 28)) _), below_alloc2 _ _ _⟩
  case round =>
    obtain ⟨j, hj, rfl, hO, hB⟩ := hrel
    obtain ⟨va, vc, rfl⟩ := hO.form
    have hlen : ((t.subs.take j).map unarg).length = j := by simp [Nat.min_eq_left hj]
    have HLN := Lib.hid hlen
    rw [hlen] at hO ⊢
    clear hlen
    by_cases hjl : j < t.subs.length
    · obtain ⟨p, hp⟩ : ∃ p, t.subs[j]? = some p := ⟨_, List.getElem?_eq_getElem hjl⟩
      obtain ⟨b, off, u, rfl, hSb, hlt, hu, c0, c1, c2, c3, c4⟩ := (H.out.bel hB).at_ hp
      obtain ⟨ua, uc, rfl, huc⟩ := hu.form
      have HP := Lib.hid hp; clear hp
      have HU := Lib.hid hu; clear hu
      obtain ⟨xs, hown, hcs⟩ := hO
      rw [HLN.out] at hown
      have HO := Lib.hid hown; clear hown
      have HC := Lib.hid hcs; clear hcs
      have zw := hB.size
      have HB := Lib.hid hB; clear hB
      by_cases e : p.k = 32
      · have d : (p.k == 32) = true := by simp [e]
        have h0 := H32.out p (List.mem_of_getElem? HP.out) e
        obtain ⟨x, hx⟩ : ∃ x, p.subs[0]? = some x := ⟨_, List.getElem?_eq_getElem h0⟩
        obtain ⟨b', off', u', rfl, hSb', hlt', hu', e0, e1, e2, e3, e4⟩ := HU.out.at_ hx
        obtain ⟨ua', uc', rfl, huc'⟩ := hu'.form
        have HUN := Lib.hid (show unarg p = x from by
          unfold unarg
          rw [if_pos e]
          cases hps : p.subs with
          | nil => rw [hps] at hx; simp at hx
          | cons y ys => rw [hps] at hx; simpa using hx)
        have HU' := Lib.hid hu'; clear hu' hx e
        simp only [Nat.zero_mul, Nat.add_zero] at e0 e1 e2 e3 e4
        have ix : (0 : Int) < (p.subs.length : Int) := by omega
        have HB5 := Lib.hid (below_alloc2 wr (.cells #[.int .i64 x.k, .string x.tx, .int .i64 x.op, .bool x.fl, .slice ua' x.subs.length uc'] 28) (.cells #[.int .i64 x.k, .string x.tx, .int .i64 x.op, .bool x.fl, .slice ua' x.subs.length uc'] 28))
        have HO5 := Lib.hid (ownsRow_below HO.out HB5.out)
        have HN5 := Lib.hid (nV_one HU'.out)
        go_wp2_with (at_builtin; refine wpList_append_lies _ rfl (.tmp 21) (.tmp 23) 26 rfl (w.heap.size + 1) 28 i0 (.agg #[.int .i64 0, .string ByteArray.empty, .int .i64 0, .bool false, .slice none 0 0]) 5 64 Tryf.underlying26 hi0 hz0 hs0 hb0 rfl (by omega) (.slice va j vc) j xs rfl HO5.out ⟨wr.heap.size + 1, 0, none⟩ 1 1 (nV x (.slice ua' x.subs.length uc')) rfl rfl (news_at wr _ _ _ _ rfl rfl) HN5.out (by omega) (by unfold maxLen; omega) (by omega) (by simp; omega) _ rfl ?_; intro g cap1 w6 hown6 hgrow6 hat6 hlt6)
        have hB5 := HB.out.trans (HB5.out.mono HB.out.size)
        have hS5 := (HU'.out.bel HB5.out).mono (T := fun k => k < w.heap.size ∧ (Value.slice va j vc).ownBlock ≠ some k) (fun k hk _ => ⟨hk, fun e => by have := (HO.out.lt k e).1; have hk' : k < w.heap.size := hk; omega⟩)
        have hO6 := OwnT.push (S := fun k => k < w.heap.size) (HC.out.below HB5.out) hS5 hown6 (by rw [HLN.out]) hgrow6 (by simpa using hat6)
        rw [← HUN.out, show ([unarg p] : List Tr) = [p].map unarg from rfl, ← List.map_append, ← take_snoc HP.out] at hO6
        have HO6 := Lib.hid hO6
        have HB6 := Lib.hid (hB5.grown hgrow6 hB5.size (fun k hk => by have := (HO5.out.lt k hk).1; omega))
        clear hB5 hS5 hO6 hown6 hgrow6 hat6
        go_wp2
        go_roundw
        case rel => exact ⟨j + 1, by omega, by go_num, HO6.out, HB6.out⟩
        case measure => simp [intOf]; omega
      · have d : (p.k == 32) = false := by simp [e]
        have HUN := Lib.hid (show unarg p = p from if_neg e)
        clear e
        have HB5 := Lib.hid (below_alloc2 wr (.cells #[.int .i64 p.k, .string p.tx, .int .i64 p.op, .bool p.fl, .slice ua p.subs.length uc] 28) (.cells #[.int .i64 p.k, .string p.tx, .int .i64 p.op, .bool p.fl, .slice ua p.subs.length uc] 28))
        have HO5 := Lib.hid (ownsRow_below HO.out HB5.out)
        have HN5 := Lib.hid (nV_one HU.out)
        go_wp2_with (at_builtin; refine wpList_append_lies _ rfl (.tmp 21) (.tmp 23) 26 rfl (w.heap.size + 1) 28 i0 (.agg #[.int .i64 0, .string ByteArray.empty, .int .i64 0, .bool false, .slice none 0 0]) 5 64 Tryf.underlying26 hi0 hz0 hs0 hb0 rfl (by omega) (.slice va j vc) j xs rfl HO5.out ⟨wr.heap.size + 1, 0, none⟩ 1 1 (nV p (.slice ua p.subs.length uc)) rfl rfl (news_at wr _ _ _ _ rfl rfl) HN5.out (by omega) (by unfold maxLen; omega) (by omega) (by simp; omega) _ rfl ?_; intro g cap1 w6 hown6 hgrow6 hat6 hlt6)
        have hB5 := HB.out.trans (HB5.out.mono HB.out.size)
        have hS5 := (HU.out.bel HB5.out).mono (T := fun k => k < w.heap.size ∧ (Value.slice va j vc).ownBlock ≠ some k) (fun k hk _ => ⟨hk, fun e => by have := (HO.out.lt k e).1; have hk' : k < w.heap.size := hk; omega⟩)
        have hO6 := OwnT.push (S := fun k => k < w.heap.size) (t := p) (HC.out.below HB5.out) hS5 hown6 (by rw [HLN.out]) hgrow6 (by simpa using hat6)
        rw [show ([p] : List Tr) = [unarg p] from by rw [HUN.out], show ([unarg p] : List Tr) = [p].map unarg from rfl, ← List.map_append, ← take_snoc HP.out] at hO6
        have HO6 := Lib.hid hO6
        have HB6 := Lib.hid (hB5.grown hgrow6 hB5.size (fun k hk => by have := (HO5.out.lt k hk).1; omega))
        clear hB5 hS5 hO6 hown6 hgrow6 hat6
        go_wp2
        go_roundw
        case rel => exact ⟨j + 1, by omega, by go_num, HO6.out, HB6.out⟩
        case measure => simp [intOf]; omega
    · obtain rfl : j = t.subs.length := by omega
      rw [List.take_length] at hO
      have HO := Lib.hid hO; clear hO
      go_wp2
      go_ret
      exact ⟨⟨_, rfl, by simpa [HLN.out] using HO.out.subs fun k hk => trivial⟩, hB⟩
end Go.Proofs.YthppionkcfkafaaFmt
