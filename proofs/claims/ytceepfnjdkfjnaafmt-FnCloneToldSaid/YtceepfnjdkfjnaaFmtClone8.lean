/-
  ast.clone at an object: the walk. Conditions: the list's length.
-/
import Derived.Test.YtceepfnjdkfjnaaFmtClone7
import Derived.Test.YtceepfnjdkfjnaaFmtClone6
import Derived.Deep.RegionLaw
namespace Go.Proofs.YtceepfnjdkfjnaaFmt
open Go.ChangeShapes Go.WideShapes Go.ChangeAt Go.RowKit Go.Joins
attribute [local go_sem] ta_Apply ta_ApplyBrace ta_Array ta_ArrayComp ta_Assert ta_Binary ta_Conditional ta_DesugaredObject ta_Dollar ta_Error ta_Function ta_Import ta_ImportBin ta_ImportStr ta_InSuper ta_Index ta_LiteralBoolean ta_LiteralNull ta_LiteralNumber ta_LiteralString ta_Local ta_Object ta_ObjectComp ta_Parens ta_Self ta_Slice ta_SuperIndex ta_Unary ta_Var
theorem news_rows {cur : Array Value} {n : Nat} (hc : ∀ i, i < n → ∀ r, r < 18 → ∃ v, cur[i * 18 + r]? = some v ∧ v.oneCell' = true) : (cur.toList.take (n * 18)).length = n * 18 ∧ ∀ u ∈ cur.toList.take (n * 18), u.oneCell' = true := by
  have key : ∀ j, j < n * 18 → ∃ v, cur[j]? = some v ∧ v.oneCell' = true := fun j hj => by
    obtain ⟨v, h1, h2⟩ := hc (j / 18) (by omega) (j % 18) (Nat.mod_lt _ (by decide))
    rw [show j / 18 * 18 + j % 18 = j by omega] at h1
    exact ⟨v, h1, h2⟩
  constructor
  · rw [List.length_take]
    rcases Nat.eq_zero_or_pos n with h0 | h0
    · subst h0; simp
    · obtain ⟨v, h1, _⟩ := key (n * 18 - 1) (by omega)
      have := (Array.getElem?_eq_some_iff.1 h1).1
      simp
      omega
  · intro u hu
    obtain ⟨j, hj⟩ := List.getElem?_of_mem hu
    rw [List.getElem?_take] at hj
    split at hj
    · rename_i hjl
      obtain ⟨v, h1, h2⟩ := key j hjl
      have hj' : cur[j]? = some u := by simpa using hj
      rw [hj'] at h1
      injection h1 with h1
      exact h1 ▸ h2
    · cases hj
theorem row_of {w : World} {base g n cap k : Nat} {t : TypeId} {cur : Array Value} (h : w.ownsRow base t k (.slice (some ⟨g, 0, none⟩) (0 + n) cap) (0 + n) ([] ++ cur.toList.take (n * k))) :
    ∃ cur1, w.heap[g]? = some (.cells cur1 t) ∧ n ≤ cap ∧ cur1.toList.take (n * k) = cur.toList.take (n * k) ∧ base ≤ g := by
  rw [Nat.zero_add] at h
  rcases h.2 with ⟨hn, _⟩ | ⟨gg, cc, cu, hv, hb, hh, hc, _, _, ht⟩
  · cases hn
  · injection hv with hv _ hv3
    injection hv with hv
    injection hv with hv
    subst hv hv3
    exact ⟨cu, hh, hc, by simpa using ht, hb⟩
theorem flds_start {w w7 : World} {l : List Tr} {F : Nat → Fld} {S1 S2 : Nat → Nat → Prop} {g' : Nat} {cur cur1 : Array Value} (hr : ∀ i s, l[i]? = some s → (F i).Row s cur (i * 18)) (htk : cur1.toList.take (l.length * 18) = cur.toList.take (l.length * 18)) (hrow : w7.heap[g']? = some (.cells cur1 232)) : FldsAt w l F S1 S2 g' 0 w7 := by
  have key : ∀ j, j < l.length * 18 → cur1[j]? = cur[j]? := by
    intro j hj
    have := congrArg (fun x : List Value => x[j]?) htk
    simp only [List.getElem?_take, if_pos hj] at this
    simpa using this
  refine ⟨cur1, F, fun _ => w7.heap.size, hrow, fun k s hk => ⟨fun h => absurd h (by omega), fun _ => (hr k s hk).keep fun j hj => key _ ?_⟩, heap_lt hrow, fun _ _ _ _ => Nat.le_refl _, Nat.le_refl _, fun k s h => absurd h (by omega)⟩
  have := (List.getElem?_eq_some_iff.1 hk).1
  omega
/-- The next field's copy. -/
theorem flds_call {w wr : World} {S : Nat → Prop} {S1 S2 : Nat → Nat → Prop} {b c j g g' m : Nat} {cs CS : Array Value} {T y TU : TypeId} {l : List Tr} {F : Nat → Fld} {s : Tr} (hSc : ¬ S c)
    (ss : ∀ i, i < l.length → ∀ k, S1 i k ∨ S2 i k → S k ∧ k ≠ b ∧ k ≠ g ∧ ∀ j, j < l.length → (F j).id ≠ some k)
    (a1 : ∀ i k op fl t1 t2, l[i]? = some (.mk k ByteArray.empty op fl [t1, t2]) → Ast w (S1 i) t1 (F i).y1 (F i).b1) (a2 : ∀ i t u, l[i]? = some t → t.subs.getLast? = some u → Ast w (S2 i) u (F i).y2 (F i).b2) (ok : ∀ t ∈ l, ∀ u ∈ t.subs, CloneOk u)
    (hm : Mid w c j cs T y CS TU wr) (hgw : w.heap.size < g') (hs : l[m]? = some s) (hf : FldsAt w l F S1 S2 g' m wr) :
    ∃ P : Ending → World → Prop, Calls Tryf.prog 60 #[.pointer (some ⟨g', m * 18, none⟩)] wr P ∧ ∀ e w3, P e w3 → e = .returned (.tuple #[]) ∧ wr.grownBy w3 (some g') ∧ FldsAt w l F S1 S2 g' (m + 1) w3 := by
  obtain ⟨cu, F', lo, hrow, hrows, hlo, hmo, hsz, hast⟩ := hf
  have hml := (List.getElem?_eq_some_iff.1 hs).1
  refine ⟨_, fld_any (w := wr) (S1 := fun k => S1 m k ∧ k < w.heap.size) (S2 := fun k => S2 m k ∧ k < w.heap.size) ((hrows m s hs).2 (Nat.le_refl _)) hrow (fun h => absurd h.2 (by omega)) (fun h => absurd h.2 (by omega))
    (fun kk op fl t1 t2 e => hm.ast (a1 m kk op fl t1 t2 (e ▸ hs)) (fun h => hSc (ss m hml c (.inl h)).1)) (fun u hu => hm.ast (a2 m s u hs hu) (fun h => hSc (ss m hml c (.inr h)).1)) (ok s (List.mem_of_getElem? hs)), fun e w3 h3 => ?_⟩
  exact ⟨h3.1, by obtain ⟨_, F2, c2, mid, _, _, _, _, hg, _⟩ := h3; exact hg, flds_step (by omega) hs hrow hrows hlo hmo hsz hast h3⟩
set_option maxRecDepth 100000 in
set_option maxHeartbeats 16000000 in
theorem clone_object {w : World} {S : Nat → Prop} {S1 S2 : Nat → Nat → Prop} {b c j g cap : Nat} {cs cur : Array Value} {T : TypeId} {p0 p1 p2 : Option Addr} {n0 n1 n2 : Nat} {tc : Bool} {a : Option Addr} {l : List Tr} {F : Nat → Fld} (hl : l.length ≤ 6) (hS : S b)
    (hg : 0 < l.length → a = some ⟨g, 0, none⟩ ∧ S g ∧ g ≠ b ∧ w.heap[g]? = some (.cells cur 232)) (hr : ∀ i t, l[i]? = some t → (F i).at_ w S b g cur (i * 18) t)
    (ss : ∀ i, i < l.length → ∀ k, S1 i k ∨ S2 i k → S k ∧ k ≠ b ∧ k ≠ g ∧ ∀ j, j < l.length → (F j).id ≠ some k) (d12 : ∀ i, i < l.length → ∀ k, S1 i k → ¬ S2 i k) (dd : ∀ i j, i < j → j < l.length → ∀ k, S1 i k ∨ S2 i k → ¬ (S1 j k ∨ S2 j k)) (di : ∀ i j, i < j → j < l.length → ∀ k, (F i).id = some k → (F j).id ≠ some k)
    (hb : w.heap[b]? = some (.cells #[.slice a l.length cap, .slice p2 0 n2, .slice p0 0 n0, .pointer none, .slice p1 0 n1, .pointer none, .string ByteArray.empty, .int .i64 0, .int .i64 0, .int .i64 0, .int .i64 0, .bool tc] 144))
    (a1 : ∀ i k op fl t1 t2, l[i]? = some (.mk k ByteArray.empty op fl [t1, t2]) → Ast w (S1 i) t1 (F i).y1 (F i).b1) (a2 : ∀ i t u, l[i]? = some t → t.subs.getLast? = some u → Ast w (S2 i) u (F i).y2 (F i).b2) (ok : ∀ t ∈ l, ∀ u ∈ t.subs, CloneOk u)
    (hSc : ¬ S c) (hc : w.heap[c]? = some (.cells cs T)) (hj : cs[j]? = some (.iface 139 (.pointer (some ⟨b, 0, none⟩)))) :
    Calls Tryf.prog 39 #[.pointer (some ⟨c, j, none⟩)] w fun e w' => Cloned w S c j cs T (.mk 20 ByteArray.empty 0 false l) 139 e w' := by
  obtain ⟨i0, hi0, hz0, hs0, hb0⟩ := info_parts infoOF
  have hbc : b ≠ c := fun e => hSc (e ▸ hS)
  have q := cell_of hc hj
  have fz := fun i => unfrozen_of_block hc i
  have zc := heap_lt hc
  have zb := heap_lt hb
  have HBC := Lib.hid (begin_copy (j := j) (y := 139) hb hc hbc (zs := #[.slice none 0 0, .slice none 0 0, .slice none 0 0, .pointer none, .slice none 0 0, .pointer none, .string ⟨#[]⟩, .int .i64 0, .int .i64 0, .int .i64 0, .int .i64 0, .bool false]) rfl)
  have HM0 := Lib.hid (begin_mid (j := j) (y := 139) (CS := #[.slice a l.length cap, .slice p2 0 n2, .slice p0 0 n0, .pointer none, .slice p1 0 n1, .pointer none, .string ByteArray.empty, .int .i64 0, .int .i64 0, .int .i64 0, .int .i64 0, .bool tc]) (TU := 144) hc)
  have HCL := Lib.hid (show (Tryf.prog.info? 144).map (·.size) = some 12 from by kernel_rfl)
  have HJ := Lib.hid (Array.getElem?_eq_some_iff.1 hj).1
  have HR := Lib.hid hr; have HA1 := Lib.hid a1; have HA2 := Lib.hid a2; have HOK := Lib.hid ok; have HGG := Lib.hid hg
  have SS := Lib.hid ss; have D12 := Lib.hid d12; have DD := Lib.hid dd; have DI := Lib.hid di
  have mk := mk_fields
  clear hb hc hj hg hr a1 a2 ok ss d12 dd di
  go_enter Tryf.func39, Tryf.ntmps39
  go_wp2_with (first
    | (refine wpList_store_mid rfl _ _ _ rfl w.heap.size 0 #[.slice a l.length cap, .slice p2 0 n2, .slice p0 0 n0, .pointer none, .slice p1 0 n1, .pointer none, .string ByteArray.empty, .int .i64 0, .int .i64 0, .int .i64 0, .int .i64 0, .bool tc] rfl rfl HBC.out.2.1 HCL.out rfl ?_)
    | (refine wpList_load_mid rfl _ _ rfl b 0 rfl [.slice a l.length cap, .slice p2 0 n2, .slice p0 0 n0, .pointer none, .slice p1 0 n1, .pointer none, .string ByteArray.empty, .int .i64 0, .int .i64 0, .int .i64 0, .int .i64 0, .bool tc] _ HBC.out.1 Tryf.underlying144 rfl HCL.out ?_))
  generalize hW : (w.setCell ⟨c, j, none⟩ (.iface 139 (.pointer (some ⟨w.heap.size, 0, none⟩)))).alloc (.cells #[.slice a l.length cap, .slice p2 0 n2, .slice p0 0 n0, .pointer none, .slice p1 0 n1, .pointer none, .string ByteArray.empty, .int .i64 0, .int .i64 0, .int .i64 0, .int .i64 0, .bool tc] 144) = w2 at HM0 ⊢
  clear hW q fz HBC
  have x0 := cell_of (j := 0) HM0.out.row rfl
  have xf := fun i => unfrozen_of_block HM0.out.row i
  have zr := HM0.out.size
  have hcr : ¬ c = w.heap.size := by omega
  have hrc : ¬ w.heap.size = c := by omega
  by_cases h0 : 0 < l.length
  · obtain ⟨rfl, hSg, hgb, hh⟩ := HGG.out h0
    have hgl := heap_lt hh
    have HH := Lib.hid ((HM0.out.grown.block g hgl (fun e => hSc (by injection e with e; exact e ▸ hSg))).trans hh)
    have hnr := news_rows (cur := cur) (n := l.length) (fun i hi r hr => by
      obtain ⟨s, hs⟩ : ∃ s, l[i]? = some s := ⟨_, List.getElem?_eq_getElem hi⟩
      exact (Fld.at_row (HR.out i s hs)).cell r hr)
    have HLN := Lib.hid hnr.1; have HONE := Lib.hid hnr.2
    have HNEWS := Lib.hid (show ∀ j u, (cur.toList.take (l.length * 18))[j]? = some u → ((w2.alloc (.cells #[] 232)).drew).cell? ((⟨g, 0, none⟩ : Addr).add j) = some u from fun j u hj => by
      have hadd : (⟨g, 0, none⟩ : Addr).add j = ⟨g, j, none⟩ := by unfold Addr.add; split <;> simp_all
      rw [hadd]
      rw [List.getElem?_take] at hj
      split at hj
      · exact cell_of (bk_drew (bk_alloc HH.out)) (by simpa using hj)
      · cases hj)
    have HN0 := Lib.hid (show ((w2.alloc (.cells #[] 232)).drew).ownsRow w2.heap.size 232 18 (.slice (some ⟨w2.heap.size, 0, none⟩) 0 0) 0 [] from ⟨rfl, .inr ⟨w2.heap.size, 0, #[], rfl, Nat.le_refl _, bk_drew (heap_alloc_new w2 _), Nat.le_refl _, by unfold maxLen; omega, rfl, rfl⟩⟩)
    have HD := Lib.hid (show Below w2.heap.size w2 ((w2.alloc (.cells #[] 232)).drew) from (below_alloc1 w2 _).drew)
    have HROW := Lib.hid HM0.out.row
    clear hh hnr
    go_region_law ((refine step_append_lies _ rfl (.tmp 617) (.tmp 621) 142 rfl w2.heap.size 232 i0 (.agg #[.pointer none, .pointer none, .slice none 0 0, .slice none 0 0, .slice none 0 0, .slice none 0 0, .nilIface, .nilIface, .nilIface, .pointer none, .string ByteArray.empty, .int .i64 0, .int .i64 0, .int .i64 0, .int .i64 0, .int .i64 0, .int .i64 0, .bool false]) 18 240 Tryf.underlying142 hi0 hz0 hs0 hb0 rfl (by omega) (.slice (some ⟨w2.heap.size, 0, none⟩) 0 0) 0 [] (by simp [Act.eval]) HN0.out ⟨g, 0, none⟩ l.length cap (cur.toList.take (l.length * 18)) (by simp [Act.eval]) HLN.out HNEWS.out HONE.out h0 (by unfold maxLen; omega) (by omega) (by simp) _ rfl ?_; intro g' cap' w6 hown6 hgrow6 hat6 hlt6; have HG6 := Lib.hid hgrow6; have HO6 := Lib.hid hown6; clear hgrow6 hown6 hat6; have v1 := cell_of (j := 0) ((HG6.out.block w.heap.size (by simp; omega) (fun e => by simp [Value.ownBlock] at e; omega)).trans ((HD.out.block _ zr).trans HROW.out)) rfl; have v2 := fun i => unfrozen_of_block ((HG6.out.block w.heap.size (by simp; omega) (fun e => by simp [Value.ownBlock] at e; omega)).trans ((HD.out.block _ zr).trans HROW.out)) i))
    all_goals
      obtain ⟨cur1, hrow1, hcap1, htk, hge⟩ : ∃ cur1, w6.heap[g']? = some (.cells cur1 232) ∧ l.length ≤ cap' ∧ cur1.toList.take (l.length * 18) = cur.toList.take (l.length * 18) ∧ w2.heap.size ≤ g' := row_of HO6.out
      have HB6 := Lib.hid (HD.out.grown HG6.out (by simp) (fun k hk => by simp [Value.ownBlock] at hk; omega))
      have HM6 := Lib.hid (mid_put HM0.out HB6.out 0 (.slice (some ⟨g', 0, none⟩) l.length cap'))
      have HF6 := Lib.hid (show FldsAt w l F S1 S2 g' 0 (w6.setCell ⟨w.heap.size, 0, none⟩ (.slice (some ⟨g', 0, none⟩) l.length cap')) from
        flds_start (fun i s hs => (Fld.at_row (HR.out i s hs))) htk (bk_set (show g' ≠ w.heap.size by omega) hrow1))
      clear hrow1 htk v1 v2 x0 xf HO6 HG6 hlt6
      generalize hW : w6.setCell ⟨w.heap.size, 0, none⟩ (.slice (some ⟨g', 0, none⟩) l.length cap') = w7 at HM6 HF6 ⊢
      clear hW
      have y0 := cell_of (j := 0) HM6.out.row rfl
      have zr7 := HM6.out.size
      go_wp2
      go_loopw [630] (fun i wr => ∃ m : Nat, m ≤ l.length ∧ i = .int .i64 m ∧ Mid w c j cs T 139 #[.slice (some ⟨g', 0, none⟩) l.length cap', .slice p2 0 n2, .slice p0 0 n0, .pointer none, .slice p1 0 n1, .pointer none, .string ByteArray.empty, .int .i64 0, .int .i64 0, .int .i64 0, .int .i64 0, .bool tc] 144 wr ∧ FldsAt w l F S1 S2 g' m wr) (fun i _ => l.length - (intOf i).toNat)
      case atStart => exact ⟨0, Nat.zero_le _, rfl, HM6.out, HF6.out⟩
      case round =>
        obtain ⟨m, hm, rfl, hmid, hfl⟩ := hrel
        have HM := Lib.hid hmid; have HF := Lib.hid hfl
        clear hmid hfl y0
        have zrr := HM.out.size
        by_cases hml : m < l.length
        · obtain ⟨s, hs⟩ : ∃ s, l[m]? = some s := ⟨_, List.getElem?_eq_getElem hml⟩
          have r0 := cell_of (j := 0) HM.out.row rfl
          have HS := Lib.hid hs
          have HCALL := Lib.hid (flds_call hSc SS.out HA1.out HA2.out HOK.out HM.out (by omega) hs HF.out)
          clear hs
          go_wp2_with fail
          obtain ⟨P, hP, hstep⟩ := HCALL.out
          have HST := Lib.hid hstep
          clear hstep
          refine hP.mono ?_
          rintro e w8 hp8
          obtain ⟨rfl, hg8, hf8⟩ := HST.out e w8 hp8
          have HG8 := Lib.hid hg8; have HF8 := Lib.hid hf8
          clear hg8 hf8 hp8
          go_wp2
          go_roundw
          case rel => exact ⟨m + 1, by omega, by go_num, HM.out.other HG8.out (by omega), HF8.out⟩
          case measure => simp [intOf]; omega
        · obtain rfl : m = l.length := by omega
          have qc := HM.out.at_ HJ.out
          go_wp2_with (go_at_call 62; refine (base_any (based_object _) HM.out.row (off := 2) rfl rfl).mono ?_; rintro e w9 ⟨rfl, hr9, hg9⟩)
          go_end0
          obtain ⟨g2, n, hm9⟩ := HM.out.last hr9 hg9
          exact object_end hcap1 HR.out hSc SS.out D12.out DD.out DI.out zr hge HF.out hg9 hm9 rfl
  · obtain rfl : l = [] := List.eq_nil_of_length_eq_zero (by omega)
    have HM6 := Lib.hid (mid_newrow HM0.out 0 (.slice (some ⟨w2.heap.size, 0, none⟩) 0 0) (.cells #[] 232))
    have hrow6 : (((w2.setCell ⟨w.heap.size, 0, none⟩ (.slice (some ⟨w2.heap.size, 0, none⟩) 0 0)).alloc (.cells #[] 232)).drew).heap[w2.heap.size]? = some (.cells #[] 232) := by
      have := heap_alloc_new (w2.setCell ⟨w.heap.size, 0, none⟩ (.slice (some ⟨w2.heap.size, 0, none⟩) 0 0)) (.cells #[] 232)
      rwa [show (w2.setCell ⟨w.heap.size, 0, none⟩ (.slice (some ⟨w2.heap.size, 0, none⟩) 0 0)).heap.size = w2.heap.size from by simp [World.setCell]] at this
    have HROW6 := Lib.hid hrow6
    clear hrow6
    simp only [List.length_nil] at x0 HM0 ⊢
    rcases a with _ | a
    all_goals
      go_region
      all_goals
        generalize hW3 : ((w2.setCell ⟨w.heap.size, 0, none⟩ (.slice (some ⟨w2.heap.size, 0, none⟩) 0 0)).alloc (.cells #[] 232)).drew = w6 at HM6 HROW6 ⊢
        clear hW3 x0 xf
        have qc := HM6.out.at_ HJ.out
        have y0 := cell_of (j := 0) HM6.out.row rfl
        go_wp2
        refine wp_loop_rounds 1 ?_
        rw [rounds_succ]
        go_wp2_with (go_at_call 62; refine (base_any (based_object _) HM6.out.row (off := 2) rfl rfl).mono ?_; rintro e w9 ⟨rfl, hr9, hg9⟩)
        go_end0
        obtain ⟨g2, n, hm9⟩ := HM6.out.last hr9 hg9
        exact object_end (l := []) (F := F) (cap' := 0) (Nat.le_refl _) HR.out hSc SS.out D12.out DD.out DI.out zr (Nat.le_refl _) ⟨#[], F, fun _ => w6.heap.size, HROW6.out, fun k s hk => by simp at hk, heap_lt HROW6.out, fun _ _ _ _ => Nat.le_refl _, Nat.le_refl _, fun k s _ hk => by simp at hk⟩ hg9 hm9 rfl
end Go.Proofs.YtceepfnjdkfjnaaFmt
