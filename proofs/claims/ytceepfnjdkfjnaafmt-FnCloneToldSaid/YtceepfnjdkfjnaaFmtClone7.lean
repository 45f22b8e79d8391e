/-
  ast.clone at an object. Conditions: the list's length.
-/
import Derived.Test.YtceepfnjdkfjnaaFmtCloneFld
import Derived.Test.YtceepfnjdkfjnaaFmtCloneReg
import Derived.Test.YtceepfnjdkfjnaaFmtObjReg
import Derived.RegionTactic
namespace Go.Proofs.YtceepfnjdkfjnaaFmt
open Go.ChangeShapes Go.WideShapes Go.ChangeAt Go.RowKit Go.Joins
attribute [local go_sem] ta_Apply ta_ApplyBrace ta_Array ta_ArrayComp ta_Assert ta_Binary ta_Conditional ta_DesugaredObject ta_Dollar ta_Error ta_Function ta_Import ta_ImportBin ta_ImportStr ta_InSuper ta_Index ta_LiteralBoolean ta_LiteralNull ta_LiteralNumber ta_LiteralString ta_Local ta_Object ta_ObjectComp ta_Parens ta_Self ta_Slice ta_SuperIndex ta_Unary ta_Var
theorem mk_fields (w : World) : (Instr.makeSlice 142 (.int .i64 0) (.int .i64 0)).run Tryf.prog w = .ok (.slice (some ⟨w.heap.size, 0, none⟩) 0 0) (w.alloc (.cells #[] 232)) := by kernel_rfl

theorem Fld.Row.cell {F : Fld} {s : Tr} {cur : Array Value} {off : Nat} (h : F.Row s cur off) : ∀ r, r < 18 → ∃ v, cur[off + r]? = some v ∧ v.oneCell' = true := fun r hr => by
  have key : ∀ (L : List Value), L.length = 18 → (∀ v ∈ L, v.oneCell' = true) → (∀ j v, L[j]? = some v → cur[off + j]? = some v) → ∃ v, cur[off + r]? = some v ∧ v.oneCell' = true := fun L hl ho hc => by
    have h1 : L[r]? = some L[r] := List.getElem?_eq_getElem (by omega)
    exact ⟨_, hc r _ h1, ho _ (List.getElem_mem _)⟩
  rcases h with ⟨c, t, _, _, hc⟩ | ⟨t1, t2, _, _, hc⟩
  · exact key _ rfl (by simp [Fld.rowId, Value.oneCell']) hc
  · exact key _ rfl (by simp [Fld.rowStr, Value.oneCell']) hc
theorem Fld.Row.keep {F : Fld} {s : Tr} {cur cur' : Array Value} {off : Nat} (h : F.Row s cur off) (hk : ∀ j, j < 18 → cur'[off + j]? = cur[off + j]?) : F.Row s cur' off := by
  rcases h with ⟨c, t, h1, h2, hc⟩ | ⟨t1, t2, h1, h2, hc⟩
  · refine .inl ⟨c, t, h1, h2, fun j v hj => ?_⟩
    have : j < 18 := (List.getElem?_eq_some_iff.1 hj).1
    rw [hk j this]
    exact hc j v hj
  · refine .inr ⟨t1, t2, h1, h2, fun j v hj => ?_⟩
    have : j < 18 := (List.getElem?_eq_some_iff.1 hj).1
    rw [hk j this]
    exact hc j v hj
theorem Fld.at_row {w : World} {S : Nat → Prop} {b g : Nat} {cur : Array Value} {off : Nat} {F : Fld} {s : Tr} (h : F.at_ w S b g cur off s) : F.Row s cur off := by
  rcases h with ⟨c, t, e, hi, _, _, _, _, hr⟩ | ⟨t1, t2, e, hi, hr⟩
  · exact .inl ⟨c, t, e, hi, hr⟩
  · exact .inr ⟨t1, t2, e, hi, hr⟩
theorem Mid.other {w w2 w3 : World} {c j g : Nat} {cs CS : Array Value} {T y TU : TypeId} (h : Mid w c j cs T y CS TU w2) (hg : w2.grownBy w3 (some g)) (hgr : w.heap.size < g) : Mid w c j cs T y CS TU w3 :=
  ⟨(hg.block _ h.size (fun e => by injection e with e; omega)).trans h.row, (hg.block c (heap_lt h.cell) (fun e => by have := h.old; injection e with e; omega)).trans h.cell, ⟨hg.os.trans h.grown.os, hg.tape.trans h.grown.tape, hg.output.trans h.grown.output, Nat.le_trans h.grown.size hg.size, fun k hk hn => (hg.block k (Nat.lt_of_lt_of_le hk h.grown.size) (fun e => by injection e with e; omega)).trans (h.grown.block k hk hn)⟩, h.old⟩
/-- The fields so far: the first m are copies. -/
def FldsAt (w : World) (l : List Tr) (F : Nat → Fld) (S1 S2 : Nat → Nat → Prop) (g m : Nat) (wr : World) : Prop :=
  ∃ (cu : Array Value) (F' : Nat → Fld) (lo : Nat → Nat), wr.heap[g]? = some (.cells cu 232) ∧ (∀ k s, l[k]? = some s → (k < m → (F' k).Row s cu (k * 18) ∧ (F' k).id = (F k).id) ∧ (m ≤ k → (F k).Row s cu (k * 18))) ∧
    g < lo 0 ∧ (∀ i j, i ≤ j → j ≤ 2 * m → lo i ≤ lo j) ∧ lo (2 * m) ≤ wr.heap.size ∧
    (∀ k s, k < m → l[k]? = some s → (∀ kk op fl t1 t2, s = .mk kk ByteArray.empty op fl [t1, t2] → Ast wr (Sub w (S1 k) (lo (2 * k)) (lo (2 * k + 1))) t1 (F' k).y1 (F' k).b1) ∧ (∀ u, s.subs.getLast? = some u → Ast wr (Sub w (S2 k) (lo (2 * k + 1)) (lo (2 * k + 2))) u (F' k).y2 (F' k).b2))
theorem flds_step {w wr w3 : World} {l : List Tr} {F : Nat → Fld} {S1 S2 : Nat → Nat → Prop} {g m : Nat} {cu : Array Value} {F' : Nat → Fld} {lo : Nat → Nat} {s : Tr} {e : Ending} (hgw : w.heap.size ≤ g) (hs : l[m]? = some s)
    (_hrow : wr.heap[g]? = some (.cells cu 232)) (hcu : ∀ k s, l[k]? = some s → (k < m → (F' k).Row s cu (k * 18) ∧ (F' k).id = (F k).id) ∧ (m ≤ k → (F k).Row s cu (k * 18))) (hlo : g < lo 0) (hmo : ∀ i j, i ≤ j → j ≤ 2 * m → lo i ≤ lo j) (hsz : lo (2 * m) ≤ wr.heap.size)
    (hd : ∀ k s, k < m → l[k]? = some s → (∀ kk op fl t1 t2, s = .mk kk ByteArray.empty op fl [t1, t2] → Ast wr (Sub w (S1 k) (lo (2 * k)) (lo (2 * k + 1))) t1 (F' k).y1 (F' k).b1) ∧ (∀ u, s.subs.getLast? = some u → Ast wr (Sub w (S2 k) (lo (2 * k + 1)) (lo (2 * k + 2))) u (F' k).y2 (F' k).b2))
    (hf : FldCloned wr (fun k => S1 m k ∧ k < w.heap.size) (fun k => S2 m k ∧ k < w.heap.size) g (m * 18) cu (F m) s e w3) : FldsAt w l F S1 S2 g (m + 1) w3 := by
  obtain ⟨_, Fn, cu', mid, hid, hR, hkeep, hrow3, hg3, hm1, hm2, hA1, hA2⟩ := hf
  have h0 := hmo 0 (2 * m) (Nat.zero_le _) (Nat.le_refl _)
  refine ⟨cu', fun k => if k = m then Fn else F' k, fun k => if k ≤ 2 * m then lo k else if k = 2 * m + 1 then mid else w3.heap.size, hrow3, fun k s' hk => ⟨fun hkm => ?_, fun hkm => ?_⟩, ?_, fun i j hij hj => ?_, ?_, fun k s' hkm hk => ?_⟩
  · by_cases e1 : k = m
    · subst e1
      rw [hs] at hk
      injection hk with hk
      subst hk
      simp only [if_true]
      exact ⟨hR, hid⟩
    · simp only [if_neg e1]
      obtain ⟨h1, h2⟩ := (hcu k s' hk).1 (by omega)
      exact ⟨h1.keep fun j hj => hkeep _ (by omega), h2⟩
  · exact ((hcu k s' hk).2 (by omega)).keep fun j hj => hkeep _ (by omega)
  · simp only [Nat.zero_le, if_true]
    exact hlo
  · dsimp only
    by_cases hj1 : j ≤ 2 * m
    · rw [if_pos hj1, if_pos (by omega)]
      exact hmo i j hij hj1
    · rw [if_neg hj1]
      by_cases hi1 : i ≤ 2 * m
      · rw [if_pos hi1]
        have := hmo i (2 * m) hi1 (Nat.le_refl _)
        split <;> omega
      · rw [if_neg hi1]
        by_cases hi2 : i = 2 * m + 1
        · rw [if_pos hi2]
          split
          · exact Nat.le_refl _
          · exact hm2
        · rw [if_neg hi2, if_neg (by omega)]
          exact Nat.le_refl _
  · dsimp only
    rw [if_neg (by omega), if_neg (by omega)]
    exact Nat.le_refl _
  · by_cases e1 : k = m
    · subst e1
      rw [hs] at hk
      injection hk with hk
      subst hk
      simp only [if_true]
      constructor
      · intro kk op fl t1 t2 e2
        have := (hA1 kk op fl t1 t2 e2).mono (T := Sub w (S1 k) (lo (2 * k)) mid) (fun x hx hl => by
          rcases hx with h | h
          · exact .inl ⟨by omega, h.2⟩
          · exact .inr h.1)
        simpa [show ¬ 2 * k + 1 ≤ 2 * k by omega] using this
      · intro u hu
        have := (hA2 u hu).mono (T := Sub w (S2 k) mid w3.heap.size) (fun x hx hl => by
          rcases hx with h | h
          · exact .inl h
          · exact .inr h.1)
        simpa [show ¬ 2 * k + 1 ≤ 2 * k by omega, show ¬ 2 * k + 2 ≤ 2 * k by omega] using this
    · have hkm' : k < m := by omega
      simp only [if_neg e1]
      obtain ⟨h1, h2⟩ := hd k s' hkm' hk
      have far : ∀ {P : Nat → Prop} {a b : Nat} {t : Tr} {y bb : Nat}, a ≤ 2 * m → Ast wr (Sub w P (lo a) b) t y bb → Ast w3 (Sub w P (lo a) b) t y bb := fun {P a b t y bb} ha hA => hA.keep (fun _ h _ => h) (fun x hx hl => hg3.block x hl (fun e2 => by
        injection e2 with e2
        have h5 := hmo 0 a (Nat.zero_le _) ha
        rcases hx with h | h
        · omega
        · have := h.2; omega))
      refine ⟨fun kk op fl t1 t2 e2 => ?_, fun u hu => ?_⟩
      · have := far (by omega) (h1 kk op fl t1 t2 e2)
        simpa [show 2 * k ≤ 2 * m by omega, show 2 * k + 1 ≤ 2 * m by omega] using this
      · have := far (by omega) (h2 u hu)
        simpa [show 2 * k + 2 ≤ 2 * m by omega, show 2 * k + 1 ≤ 2 * m by omega] using this
theorem object_end {w w2 wr w9 : World} {S : Nat → Prop} {S1 S2 : Nat → Nat → Prop} {b c j g g' cap' : Nat} {cs cur CS9 : Array Value} {T : TypeId} {p0 p1 p2 : Option Addr} {n0 n1 n2 : Nat} {tc : Bool} {l : List Tr} {F : Nat → Fld} (hcap : l.length ≤ cap')
    (hr : ∀ i t, l[i]? = some t → (F i).at_ w S b g cur (i * 18) t) (hSc : ¬ S c)
    (ss : ∀ i, i < l.length → ∀ k, S1 i k ∨ S2 i k → S k ∧ k ≠ b ∧ k ≠ g ∧ ∀ j, j < l.length → (F j).id ≠ some k) (d12 : ∀ i, i < l.length → ∀ k, S1 i k → ¬ S2 i k) (dd : ∀ i j, i < j → j < l.length → ∀ k, S1 i k ∨ S2 i k → ¬ (S1 j k ∨ S2 j k)) (di : ∀ i j, i < j → j < l.length → ∀ k, (F i).id = some k → (F j).id ≠ some k)
    (hwr : w.heap.size < w2.heap.size) (hgg : w2.heap.size ≤ g') (hf : FldsAt w l F S1 S2 g' l.length wr) (hgr : wr.grownBy w9 (some w.heap.size)) (hm : Mid w c j cs T 139 CS9 144 w9)
    (hC : CS9 = #[.slice (some ⟨g', 0, none⟩) l.length cap', .slice p2 0 n2, .slice p0 0 n0, .pointer none, .slice p1 0 n1, .pointer none, .string ByteArray.empty, .int .i64 0, .int .i64 0, .int .i64 0, .int .i64 0, .bool tc]) :
    Cloned w S c j cs T (.mk 20 ByteArray.empty 0 false l) 139 (.returned (.tuple #[])) w9 := by
  subst hC
  obtain ⟨cu, F', lo, hrow, hrows, hlo, hmo, _, hast⟩ := hf
  have hgl := heap_lt hrow
  have hrow9 : w9.heap[g']? = some (.cells cu 232) := (hgr.block g' hgl (fun e => by injection e with e; omega)).trans hrow
  have low : ∀ i, i ≤ 2 * l.length → g' < lo i := fun i hi => by have := hmo 0 i (Nat.zero_le _) hi; omega
  have idlt : ∀ i k, i < l.length → (F i).id = some k → S k ∧ k < w.heap.size ∧ k ≠ b ∧ k ≠ g ∧ ∃ s, l[i]? = some s ∧ w.heap[k]? = some (.cells #[.string s.tx] 121) := fun i k hi hid => by
    obtain ⟨s, hs⟩ : ∃ s, l[i]? = some s := ⟨_, List.getElem?_eq_getElem hi⟩
    rcases hr i s hs with ⟨c', t, _, h2, h3, h4, h5, h6, _⟩ | ⟨t1, t2, _, h2, _⟩
    · rw [hid] at h2
      injection h2 with h2
      subst h2
      exact ⟨h3, heap_lt h6, h4, h5, s, hs, h6⟩
    · rw [hid] at h2
      cases h2
  have hid' : ∀ i, i < l.length → (F' i).id = (F i).id := fun i hi => by
    obtain ⟨s, hs⟩ : ∃ s, l[i]? = some s := ⟨_, List.getElem?_eq_getElem hi⟩
    exact ((hrows i s hs).1 hi).2
  have rng : ∀ i, i < l.length → ∀ k, Sub w (S1 i) (lo (2 * i)) (lo (2 * i + 1)) k ∨ Sub w (S2 i) (lo (2 * i + 1)) (lo (2 * i + 2)) k → (lo (2 * i) ≤ k ∧ k < lo (2 * i + 2)) ∨ ((S1 i k ∨ S2 i k) ∧ k < w.heap.size) := fun i hi k hk => by
    have h1 := hmo (2 * i) (2 * i + 1) (by omega) (by omega)
    have h2 := hmo (2 * i + 1) (2 * i + 2) (by omega) (by omega)
    rcases hk with (h | h) | (h | h)
    · exact .inl ⟨h.1, by omega⟩
    · exact .inr ⟨.inl h.1, h.2⟩
    · exact .inl ⟨by omega, h.2⟩
    · exact .inr ⟨.inr h.1, h.2⟩
  refine ⟨rfl, w.heap.size, hm.cell, hm.grown, .object (S1 := fun i => Sub w (S1 i) (lo (2 * i)) (lo (2 * i + 1))) (S2 := fun i => Sub w (S2 i) (lo (2 * i + 1)) (lo (2 * i + 2))) w.heap.size g' cu p0 p1 p2 n0 n1 n2 cap' tc (some ⟨g', 0, none⟩) (F := F') (.inl (Nat.le_refl _))
    (fun _ => ⟨rfl, .inl (by omega), by omega, hrow9⟩) hcap (fun i s hs => ?_) (fun i hi k hk => ?_) (fun i hi k hk hk' => ?_) (fun i j hij hj k hk hk' => ?_) (fun i j hij hj k hk hk' => ?_) hm.row (fun i kk op fl t1 t2 hs => ?_) (fun i s u hs hu => ?_)⟩
  · have hi := (List.getElem?_eq_some_iff.1 hs).1
    obtain ⟨h1, h2⟩ := (hrows i s hs).1 hi
    rcases h1 with ⟨c', t, e, e2, hc⟩ | ⟨t1, t2, e, e2, hc⟩
    · obtain ⟨q1, q2, q3, q4, s', hs', hh⟩ := idlt i c' hi (h2 ▸ e2)
      rw [hs] at hs'
      injection hs' with hs'
      subst hs'
      exact .inl ⟨c', t, e, e2, .inr ⟨q1, q2⟩, by omega, by omega, (hm.grown.block c' q2 (fun e3 => hSc (by injection e3 with e3; exact e3 ▸ q1))).trans hh, hc⟩
    · exact .inr ⟨t1, t2, e, e2, hc⟩
  · have hl0 := low (2 * i) (by omega)
    rcases rng i hi k hk with h | h
    · refine ⟨.inl (by omega), by omega, by omega, fun j hj e => ?_⟩
      have := (idlt j k hj (hid' j hj ▸ e)).2.1
      omega
    · obtain ⟨q1, q2, q3, q4⟩ := ss i hi k h.1
      exact ⟨.inr ⟨q1, h.2⟩, by omega, by omega, fun j hj e => q4 j hj (hid' j hj ▸ e)⟩
  · have hl0 := low (2 * i) (by omega)
    have hl1 := low (2 * i + 1) (by omega)
    rcases hk with h | h
    · rcases hk' with h' | h' <;> omega
    · rcases hk' with h' | h'
      · omega
      · exact d12 i hi k h.1 h'.1
  · have hl0 := low (2 * i) (by omega)
    have hl1 := low (2 * j) (by omega)
    have hij' := hmo (2 * i + 2) (2 * j) (by omega) (by omega)
    rcases rng i (by omega) k hk with h | h
    · rcases rng j hj k hk' with h' | h' <;> omega
    · rcases rng j hj k hk' with h' | h'
      · omega
      · exact dd i j hij hj k h.1 h'.1
  · exact di i j hij hj k (hid' i (by omega) ▸ hk) (hid' j hj ▸ hk')
  · have hi := (List.getElem?_eq_some_iff.1 hs).1
    exact sub_far ((hast i _ hi hs).1 kk op fl t1 t2 rfl) hgr (by have := low (2 * i) (by omega); omega)
  · have hi := (List.getElem?_eq_some_iff.1 hs).1
    exact sub_far ((hast i s hi hs).2 u hu) hgr (by have := low (2 * i + 1) (by omega); omega)
end Go.Proofs.YtceepfnjdkfjnaaFmt
