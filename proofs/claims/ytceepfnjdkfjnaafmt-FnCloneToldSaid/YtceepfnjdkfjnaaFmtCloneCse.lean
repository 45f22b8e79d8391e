/-
  ast.cloneCommaSeparatedExprs: a list of expressions is copied. Conditions: the list's length.
-/
import Derived.Test.YtceepfnjdkfjnaaFmtCloneDef
import Derived.Test.YtceepfnjdkfjnaaFmtElems
import Derived.Maps.AppendAt
import Derived.Laws.OwnMore
namespace Go.Proofs.YtceepfnjdkfjnaaFmt
open Go.ChangeShapes Go.WideShapes Go.ChangeAt Go.RowKit Go.Joins

theorem infoC : (Tryf.prog.info? 130).map (fun i => (i.zero, i.size, i.bytes)) = some (some (.agg #[.nilIface, .slice none 0 0]), 2, 40) := by kernel_rfl
theorem mk_cse (w : World) : (Instr.makeSlice 126 (.int .i64 0) (.int .i64 0)).run Tryf.prog w = .ok (.slice (some ⟨w.heap.size, 0, none⟩) 0 0) (w.alloc (.cells #[] 130)) := by kernel_rfl
/-- A copied list. -/
def CseBack (w : World) (l : List Tr) (SS : Nat → Nat → Prop) (ys : Nat → Nat) (ps : Nat → Option Addr) (ns : Nat → Nat) (e : Ending) (w' : World) : Prop :=
  ∃ (g cap : Nat) (cur : Array Value) (bs lo : Nat → Nat), e = .returned (.slice (some ⟨g, 0, none⟩) l.length cap) ∧ w.heap.size ≤ g ∧ l.length ≤ cap ∧ w'.heap[g]? = some (.cells cur 130) ∧
    (∀ i, i < l.length → cur[i * 2]? = some (.iface (ys i) (.pointer (some ⟨bs i, 0, none⟩))) ∧ cur[i * 2 + 1]? = some (.slice (ps i) 0 (ns i))) ∧
    g < lo 0 ∧ (∀ i j, i ≤ j → j ≤ l.length → lo i ≤ lo j) ∧ ∀ i t, l[i]? = some t → Ast w' (Sub w (SS i) (lo i) (lo (i + 1))) t (ys i) (bs i)
set_option maxRecDepth 100000 in
theorem cse_none {w : World} {a : Option Addr} {cap : Nat} {SS : Nat → Nat → Prop} {ys : Nat → Nat} {ps : Nat → Option Addr} {ns : Nat → Nat} :
    Calls Tryf.prog 58 #[.slice a 0 cap] w fun e w' => CseBack w [] SS ys ps ns e w' ∧ Below w.heap.size w w' := by
  have mk := mk_cse
  rcases a with _ | a
  all_goals
    go_enter Tryf.func58, Tryf.ntmps58
    go_wp2
    refine wp_loop_rounds 1 ?_
    rw [rounds_succ]
    go_wp2
    go_ret
    exact ⟨⟨w.heap.size, 0, #[], fun _ => 0, fun _ => w.heap.size + 1, rfl, Nat.le_refl _, Nat.le_refl _, heap_alloc_new w _, fun i hi => absurd hi (by simp), Nat.lt_succ_self _, fun _ _ _ _ => Nat.le_refl _, fun i t h => by simp at h⟩, below_alloc1 _ _⟩
theorem curs_set {cur : Array Value} {m : Nat} {v : Value} (hm : m * 2 < cur.size) (k : Nat) : (cur.setIfInBounds (m * 2) v)[k * 2]? = (if k = m then some v else cur[k * 2]?) ∧ (cur.setIfInBounds (m * 2) v)[k * 2 + 1]? = cur[k * 2 + 1]? := by
  constructor
  · by_cases e : k = m
    · subst e
      simp [hm]
    · rw [if_neg e, Array.getElem?_setIfInBounds_ne (by omega)]
  · rw [Array.getElem?_setIfInBounds_ne (by omega)]
set_option maxRecDepth 100000 in
set_option maxHeartbeats 4000000 in
theorem cse_some {w : World} {g cap : Nat} {cur : Array Value} {l : List Tr} {SS : Nat → Nat → Prop} {ys bs : Nat → Nat} {ps : Nat → Option Addr} {ns : Nat → Nat} (h0 : 0 < l.length) (hl : l.length ≤ 6)
    (hg : w.heap[g]? = some (.cells cur 130)) (hr : ∀ i, i < l.length → cur[i * 2]? = some (.iface (ys i) (.pointer (some ⟨bs i, 0, none⟩))) ∧ cur[i * 2 + 1]? = some (.slice (ps i) 0 (ns i)))
    (aa : ∀ i t, l[i]? = some t → Ast w (SS i) t (ys i) (bs i)) (ok : ∀ t ∈ l, CloneOk t) :
    Calls Tryf.prog 58 #[.slice (some ⟨g, 0, none⟩) l.length cap] w fun e w' => CseBack w l SS ys ps ns e w' ∧ Below w.heap.size w w' := by
  have mk := mk_cse
  obtain ⟨i0, hi0, hz0, hs0, hb0⟩ := info_parts infoC
  have hcs : l.length * 2 ≤ cur.size := by
    have := (hr (l.length - 1) (by omega)).2
    have := (Array.getElem?_eq_some_iff.1 this).1
    omega
  have hnews : ∀ j u, (cur.toList.take (l.length * 2))[j]? = some u → (w.alloc (.cells #[] 130)).cell? ((⟨g, 0, none⟩ : Addr).add j) = some u := by
    intro j u hj
    have hadd : (⟨g, 0, none⟩ : Addr).add j = ⟨g, j, none⟩ := by unfold Addr.add; split <;> simp_all
    rw [hadd]
    rw [List.getElem?_take] at hj
    split at hj
    · exact cell_of (bk_alloc hg) (by simpa using hj)
    · cases hj
  have hone : ∀ u ∈ cur.toList.take (l.length * 2), u.oneCell' = true := by
    intro u hu
    obtain ⟨j, hj⟩ := List.getElem?_of_mem hu
    rw [List.getElem?_take] at hj
    split at hj
    · rename_i hjl
      have hj' : cur[j]? = some u := by simpa using hj
      obtain ⟨h1, h2⟩ := hr (j / 2) (by omega)
      rcases Nat.mod_two_eq_zero_or_one j with e | e
      · rw [show j / 2 * 2 = j by omega, hj'] at h1
        injection h1 with h1
        subst h1
        rfl
      · rw [show j / 2 * 2 + 1 = j by omega, hj'] at h2
        injection h2 with h2
        subst h2
        rfl
    · cases hj
  have HNEWS := Lib.hid hnews; have HONE := Lib.hid hone
  have HLN := Lib.hid (show (cur.toList.take (l.length * 2)).length = l.length * 2 by rw [List.length_take]; simp; omega)
  have HR := Lib.hid hr; have HA := Lib.hid aa; have HOK := Lib.hid ok
  have HN0 := Lib.hid (show (w.alloc (.cells #[] 130)).ownsRow w.heap.size 130 2 (.slice (some ⟨w.heap.size, 0, none⟩) 0 0) 0 [] from ⟨rfl, .inr ⟨w.heap.size, 0, #[], rfl, Nat.le_refl _, heap_alloc_new w _, Nat.le_refl _, by unfold maxLen; omega, rfl, rfl⟩⟩)
  have hgl := heap_lt hg
  clear hnews hone hr aa ok hg
  go_enter Tryf.func58, Tryf.ntmps58
  go_wp2_with (at_builtin; refine wpList_append_lies _ rfl (.tmp 5) (.tmp 6) 126 rfl w.heap.size 130 i0 (.agg #[.nilIface, .slice none 0 0]) 2 40 Tryf.underlying126 hi0 hz0 hs0 hb0 rfl (by omega) (.slice (some ⟨w.heap.size, 0, none⟩) 0 0) 0 [] rfl HN0.out ⟨g, 0, none⟩ l.length cap (cur.toList.take (l.length * 2)) rfl HLN.out HNEWS.out HONE.out h0 (by unfold maxLen; omega) (by omega) (by simp) _ rfl ?_; intro g' cap' w1 hown hgrow hat hlt)
  simp only [Nat.zero_add, List.nil_append] at hown
  have hB1 := Lib.hid ((below_alloc1 w (.cells #[] 130)).grown hgrow (by simp) (fun k hk => by simp [Value.ownBlock] at hk; omega))
  obtain ⟨cur1, hrow1, hcap1, htk, hge⟩ : ∃ cur1, w1.heap[g']? = some (.cells cur1 130) ∧ l.length ≤ cap' ∧ cur1.toList.take (l.length * 2) = cur.toList.take (l.length * 2) ∧ w.heap.size ≤ g' := by
    rcases hown.2 with ⟨hn, _⟩ | ⟨gg, cc, cu, hv, hb, hh, hc, _, _, ht⟩
    · cases hn
    · injection hv with hv _ hv3
      injection hv with hv
      injection hv with hv
      subst hv hv3
      exact ⟨cu, hh, hc, ht, hb⟩
  have hr1 : ∀ i, i < l.length → cur1[i * 2]? = some (.iface (ys i) (.pointer (some ⟨bs i, 0, none⟩))) ∧ cur1[i * 2 + 1]? = some (.slice (ps i) 0 (ns i)) := by
    intro i hi
    have key : ∀ j, j < l.length * 2 → cur1[j]? = cur[j]? := by
      intro j hj
      have := congrArg (fun x : List Value => x[j]?) htk
      simp only [List.getElem?_take, if_pos hj] at this
      simpa using this
    rw [key _ (by omega), key _ (by omega)]
    exact HR.out i hi
  have HROW1 := Lib.hid hrow1; have HR1 := Lib.hid hr1; have HLT := Lib.hid hlt
  clear hown hgrow hat htk hrow1 hr1 hlt
  go_loopw [10] (fun i wr => ∃ (m : Nat) (cu : Array Value) (bm lo : Nat → Nat), m ≤ l.length ∧ i = .int .i64 m ∧ wr.heap[g']? = some (.cells cu 130) ∧
      (∀ k, k < l.length → cu[k * 2]? = some (.iface (ys k) (.pointer (some ⟨if k < m then bm k else bs k, 0, none⟩))) ∧ cu[k * 2 + 1]? = some (.slice (ps k) 0 (ns k))) ∧
      g' < lo 0 ∧ (∀ i j, i ≤ j → j ≤ m → lo i ≤ lo j) ∧ lo m ≤ wr.heap.size ∧ (∀ k t, k < m → l[k]? = some t → Ast wr (Sub w (SS k) (lo k) (lo (k + 1))) t (ys k) (bm k)) ∧ Below w.heap.size w wr)
    (fun i _ => l.length - (intOf i).toNat)
  case atStart =>
    exact ⟨0, cur1, fun _ => 0, fun _ => w1.heap.size, Nat.zero_le _, rfl, HROW1.out, fun k hk => by simpa using HR1.out k hk, HLT.out, fun _ _ _ _ => Nat.le_refl _, Nat.le_refl _, fun k t hk => absurd hk (by omega), hB1.out⟩
  case round =>
    obtain ⟨m, cu, bm, lo, hm, rfl, hrow, hcu, hg0, hmono, hlo, hdone, hB⟩ := hrel
    by_cases hml : m < l.length
    · obtain ⟨t0, ht⟩ : ∃ t, l[m]? = some t := ⟨_, List.getElem?_eq_getElem hml⟩
      have hcm := hcu m hml
      rw [if_neg (Nat.lt_irrefl _)] at hcm
      have hms := (Array.getElem?_eq_some_iff.1 hcm.1).1
      have hAt : Ast wr (fun k => SS m k ∧ k < w.heap.size) t0 (ys m) (bs m) := (HA.out m t0 ht).keep (fun _ h hl => ⟨h, hl⟩) (fun k _ hl => hB.block k hl)
      have HC := Lib.hid (HOK.out t0 (List.mem_of_getElem? ht) wr (fun k => SS m k ∧ k < w.heap.size) (ys m) (bs m) g' (m * 2) cu 130 hAt (fun h => absurd h.2 (by omega)) hrow hcm.1)
      have HROW := Lib.hid hrow; have HCU := Lib.hid hcu; have HD := Lib.hid hdone; have HM := Lib.hid hmono; have HB := Lib.hid hB; have HT := Lib.hid ht; have HLO := Lib.hid hlo; have HG0 := Lib.hid hg0
      clear hcm hAt hrow hcu hdone hmono hB ht hlo hg0
      go_wp2_with fail
      refine HC.out.mono ?_
      rintro e w3 ⟨rfl, b', hrow3, hg3, ha3⟩
      have HROW3 := Lib.hid hrow3; have HG3 := Lib.hid hg3; have HA3 := Lib.hid ha3
      clear hrow3 hg3 ha3
      go_wp2
      go_roundw
      case rel =>
        have hz := HG3.out.size
        have hzl := HLO.out
        have hgg := heap_lt HROW.out
        refine ⟨m + 1, _, fun k => if k = m then b' else bm k, fun k => if k ≤ m then lo k else w3.heap.size, by omega, by go_num, HROW3.out, fun k hk => ?_, ?_, fun i j hij hj => ?_, by dsimp only; rw [if_neg (by omega)]; exact Nat.le_refl _, fun k t hk hkt => ?_, ?_⟩
        · obtain ⟨c1, c2⟩ := curs_set (cur := cu) (v := .iface (ys m) (.pointer (some ⟨b', 0, none⟩))) hms k
          rw [c1, c2]
          obtain ⟨d1, d2⟩ := HCU.out k hk
          refine ⟨?_, d2⟩
          by_cases e : k = m
          · subst e
            simp
          · rw [if_neg e, d1]
            have : (k < m + 1) = (k < m) := by rw [eq_iff_iff]; omega
            simp [this, e]
        · dsimp only
          rw [if_pos (Nat.zero_le _)]
          exact HG0.out
        · dsimp only
          by_cases h1 : j ≤ m
          · rw [if_pos h1, if_pos (by omega)]
            exact HM.out i j hij h1
          · rw [if_neg h1]
            split
            · have := HM.out i m (by omega) (Nat.le_refl _)
              omega
            · exact Nat.le_refl _
        · by_cases e : k = m
          · subst e
            rw [HT.out] at hkt
            injection hkt with hkt
            subst hkt
            have := HA3.out.mono (T := Sub w (SS k) (lo k) w3.heap.size) (fun x hx hl => by
              rcases hx with h | h
              · exact .inl ⟨by omega, hl⟩
              · exact .inr h.1)
            simpa [show ¬ k + 1 ≤ k by omega] using this
          · have hkm : k < m := by omega
            have h3 := HD.out k t hkm hkt
            have h4 : Ast w3 (Sub w (SS k) (lo k) (lo (k + 1))) t (ys k) (bm k) := h3.keep (fun _ h _ => h) (fun x hx hl => HG3.out.block x hl (fun e2 => by
              injection e2 with e2
              have h5 := HG0.out
              have h6 := HM.out 0 k (Nat.zero_le _) (by omega)
              rcases hx with h | h
              · omega
              · have := h.2; omega))
            simpa [e, show k ≤ m by omega, show k + 1 ≤ m by omega] using h4
        · exact HB.out.grown HG3.out HB.out.size (fun k hk => by cases hk; exact hge)
      case measure => simp [intOf]; omega
    · have hme : m = l.length := by omega
      subst hme
      have HROW := Lib.hid hrow; have HCU := Lib.hid hcu; have HD := Lib.hid hdone; have HM := Lib.hid hmono; have HB := Lib.hid hB; have HG0 := Lib.hid hg0
      clear hrow hcu hdone hmono hB hg0 hlo
      go_wp2
      go_ret
      exact ⟨⟨g', cap', cu, bm, lo, rfl, hge, hcap1, HROW.out, fun i hi => by have := HCU.out i hi; rw [if_pos hi] at this; exact this, HG0.out, HM.out, fun i t hi => HD.out i t (List.getElem?_eq_some_iff.1 hi).1 hi⟩, HB.out⟩
end Go.Proofs.YtceepfnjdkfjnaaFmt
