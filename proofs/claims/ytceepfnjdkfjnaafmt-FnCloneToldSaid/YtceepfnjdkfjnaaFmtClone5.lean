/-
  ast.clone at an array. Conditions: the list's length.
-/
import Derived.Test.YtceepfnjdkfjnaaFmtCloneCse
import Derived.Test.YtceepfnjdkfjnaaFmtCloneReg
namespace Go.Proofs.YtceepfnjdkfjnaaFmt
open Go.ChangeShapes Go.WideShapes Go.ChangeAt Go.RowKit Go.Joins
attribute [local go_sem] ta_Apply ta_ApplyBrace ta_Array ta_ArrayComp ta_Assert ta_Binary ta_Conditional ta_DesugaredObject ta_Dollar ta_Error ta_Function ta_Import ta_ImportBin ta_ImportStr ta_InSuper ta_Index ta_LiteralBoolean ta_LiteralNull ta_LiteralNumber ta_LiteralString ta_Local ta_Object ta_ObjectComp ta_Parens ta_Self ta_Slice ta_SuperIndex ta_Unary ta_Var
/-- A list of expressions, wherever it lies, copied. -/
theorem cse_any {w w2 : World} {c j b g cap : Nat} {cs CS cur : Array Value} {T y TU : TypeId} {a : Option Addr} {l : List Tr} {S : Nat → Prop} {SS : Nat → Nat → Prop} {ys bs : Nat → Nat} {ps : Nat → Option Addr} {ns : Nat → Nat} (hl : l.length ≤ 6)
    (hg : 0 < l.length → a = some ⟨g, 0, none⟩ ∧ S g ∧ g ≠ b ∧ w.heap[g]? = some (.cells cur 130)) (hr : ∀ i, i < l.length → cur[i * 2]? = some (.iface (ys i) (.pointer (some ⟨bs i, 0, none⟩))) ∧ cur[i * 2 + 1]? = some (.slice (ps i) 0 (ns i)))
    (aa : ∀ i t, l[i]? = some t → Ast w (SS i) t (ys i) (bs i)) (ok : ∀ t ∈ l, CloneOk t) (hSc : ¬ S c) (hss : ∀ i, i < l.length → ∀ k, SS i k → S k) (hm : Mid w c j cs T y CS TU w2) :
    Calls Tryf.prog 58 #[.slice a l.length cap] w2 fun e w' => CseBack w2 l (fun i k => SS i k ∧ k < w.heap.size) ys ps ns e w' ∧ Below w2.heap.size w2 w' := by
  by_cases h0 : 0 < l.length
  · obtain ⟨rfl, hSg, _, hh⟩ := hg h0
    have hh2 : w2.heap[g]? = some (.cells cur 130) := (hm.grown.block g (heap_lt hh) (fun e => hSc (by injection e with e; exact e ▸ hSg))).trans hh
    exact cse_some h0 hl hh2 hr (fun i t ht => hm.ast (aa i t ht) (fun h => hSc (hss i (List.getElem?_eq_some_iff.1 ht).1 _ h))) ok
  · obtain rfl : l = [] := List.eq_nil_of_length_eq_zero (by omega)
    exact cse_none
/-- What the copied list is, in the copy's own words. -/
theorem cse_parts {w w2 w3 w4 : World} {l : List Tr} {SS : Nat → Nat → Prop} {ys bs lo : Nat → Nat} {g : Nat} (hwr : w.heap.size < w2.heap.size) (hg : w2.heap.size ≤ g) (hlo : g < lo 0) (hmono : ∀ i j, i ≤ j → j ≤ l.length → lo i ≤ lo j)
    (ha : ∀ i t, l[i]? = some t → Ast w3 (Sub w2 (fun k => SS i k ∧ k < w.heap.size) (lo i) (lo (i + 1))) t (ys i) (bs i)) (hgr : w3.grownBy w4 (some w.heap.size)) :
    ∀ i t, l[i]? = some t → Ast w4 (Sub w (SS i) (lo i) (lo (i + 1))) t (ys i) (bs i) := fun i t ht => by
  have hi := (List.getElem?_eq_some_iff.1 ht).1
  have h1 := (ha i t ht).mono (T := Sub w (SS i) (lo i) (lo (i + 1))) (fun k hk _ => by
    rcases hk with h | h
    · exact .inl h
    · exact .inr h.1)
  exact sub_far h1 hgr (by have := hmono 0 i (Nat.zero_le _) (by omega); omega)
theorem cse_in {w w2 : World} {l : List Tr} {S : Nat → Prop} {SS : Nat → Nat → Prop} {lo : Nat → Nat} {g b g0 : Nat} (hwr : w.heap.size < w2.heap.size) (hg : w2.heap.size ≤ g) (hlo : g < lo 0) (hmono : ∀ i j, i ≤ j → j ≤ l.length → lo i ≤ lo j) (ss : ∀ i, i < l.length → ∀ k, SS i k → S k ∧ k ≠ b ∧ k ≠ g0) :
    ∀ i, i < l.length → ∀ k, Sub w (SS i) (lo i) (lo (i + 1)) k → Widened w S k ∧ k ≠ w.heap.size ∧ k ≠ g := fun i hi k hk => by
  have h0 := hmono 0 i (Nat.zero_le _) (by omega)
  rcases hk with ⟨h1, h2⟩ | ⟨h1, h2⟩
  · exact ⟨.inl (by omega), by omega, by omega⟩
  · exact ⟨.inr ⟨(ss i hi k h1).1, h2⟩, by omega, by omega⟩
theorem cse_apart {w w2 : World} {l : List Tr} {SS : Nat → Nat → Prop} {lo : Nat → Nat} {g : Nat} (hwr : w.heap.size < w2.heap.size) (hg : w2.heap.size ≤ g) (hlo : g < lo 0) (hmono : ∀ i j, i ≤ j → j ≤ l.length → lo i ≤ lo j) (dd : ∀ i j, i < j → j < l.length → ∀ k, SS i k → ¬ SS j k) :
    ∀ i j, i < j → j < l.length → ∀ k, Sub w (SS i) (lo i) (lo (i + 1)) k → ¬ Sub w (SS j) (lo j) (lo (j + 1)) k := fun i j hij hj k hk hk' => by
  have h0 := hmono 0 i (Nat.zero_le _) (by omega)
  have h1 := hmono (i + 1) j (by omega) (by omega)
  have h2 := hmono 0 j (Nat.zero_le _) (by omega)
  rcases hk with ⟨a1, a2⟩ | ⟨a1, a2⟩
  · rcases hk' with ⟨b1, b2⟩ | ⟨b1, b2⟩ <;> omega
  · rcases hk' with ⟨b1, b2⟩ | ⟨b1, b2⟩
    · omega
    · exact dd i j hij hj k a1 b1
set_option maxRecDepth 100000 in
set_option maxHeartbeats 8000000 in
theorem clone_array {w : World} {S : Nat → Prop} {SS : Nat → Nat → Prop} {b c j g cap : Nat} {cs cur : Array Value} {T : TypeId} {p0 p1 p2 : Option Addr} {n0 n1 n2 : Nat} {tc : Bool} {a : Option Addr} {l : List Tr} {ys bs : Nat → Nat} {ps : Nat → Option Addr} {ns : Nat → Nat} (hl : l.length ≤ 6) (hS : S b)
    (hg : 0 < l.length → a = some ⟨g, 0, none⟩ ∧ S g ∧ g ≠ b ∧ w.heap[g]? = some (.cells cur 130)) (hr : ∀ i, i < l.length → cur[i * 2]? = some (.iface (ys i) (.pointer (some ⟨bs i, 0, none⟩))) ∧ cur[i * 2 + 1]? = some (.slice (ps i) 0 (ns i)))
    (ss : ∀ i, i < l.length → ∀ k, SS i k → S k ∧ k ≠ b ∧ k ≠ g) (dd : ∀ i j, i < j → j < l.length → ∀ k, SS i k → ¬ SS j k)
    (hb : w.heap[b]? = some (.cells #[.slice a l.length cap, .slice p2 0 n2, .slice p0 0 n0, .pointer none, .slice p1 0 n1, .pointer none, .string ByteArray.empty, .int .i64 0, .int .i64 0, .int .i64 0, .int .i64 0, .bool tc] 128)) (aa : ∀ i t, l[i]? = some t → Ast w (SS i) t (ys i) (bs i)) (ok : ∀ t ∈ l, CloneOk t)
    (hSc : ¬ S c) (hc : w.heap[c]? = some (.cells cs T)) (hj : cs[j]? = some (.iface 125 (.pointer (some ⟨b, 0, none⟩)))) :
    Calls Tryf.prog 39 #[.pointer (some ⟨c, j, none⟩)] w fun e w' => Cloned w S c j cs T (.mk 18 ByteArray.empty 0 false l) 125 e w' := by
  have hbc : b ≠ c := fun e => hSc (e ▸ hS)
  have q := cell_of hc hj
  have fz := fun i => unfrozen_of_block hc i
  have zc := heap_lt hc
  have zb := heap_lt hb
  have HBC := Lib.hid (begin_copy (j := j) (y := 125) hb hc hbc (zs := #[.slice none 0 0, .slice none 0 0, .slice none 0 0, .pointer none, .slice none 0 0, .pointer none, .string ⟨#[]⟩, .int .i64 0, .int .i64 0, .int .i64 0, .int .i64 0, .bool false]) rfl)
  have HM0 := Lib.hid (begin_mid (j := j) (y := 125) (CS := #[.slice a l.length cap, .slice p2 0 n2, .slice p0 0 n0, .pointer none, .slice p1 0 n1, .pointer none, .string ByteArray.empty, .int .i64 0, .int .i64 0, .int .i64 0, .int .i64 0, .bool tc]) (TU := 128) hc)
  have HCL := Lib.hid (show (Tryf.prog.info? 128).map (·.size) = some 12 from by kernel_rfl)
  have HJ := Lib.hid (Array.getElem?_eq_some_iff.1 hj).1
  have HC0 := Lib.hid (cse_any (cap := cap) hl hg hr aa ok hSc (fun i hi k h => (ss i hi k h).1) HM0.out)
  clear hb hc hj hg hr aa ok
  go_enter Tryf.func39, Tryf.ntmps39
  go_wp2_with (first
    | (go_at_call 62; refine (base_any (based_array _) HM2.out.row (off := 2) rfl rfl).mono ?_; rintro e w9 ⟨rfl, hr9, hg9⟩)
    | (go_at_call 58; refine HC0.out.mono ?_; rintro e w1 ⟨⟨g', cap', cur', bs', lo, rfl, hg1, hcap1, hrow1, hcells1, hlo1, hmono1, hast1⟩, hb1⟩; have HROW := Lib.hid ((hb1.block w.heap.size HM0.out.size).trans HM0.out.row); have HM2 := Lib.hid (mid_put HM0.out hb1 0 (.slice (some ⟨g', 0, none⟩) l.length cap')); have rf := fun i => unfrozen_of_block HROW.out i; have rc := cell_of (j := 0) HROW.out rfl; have qc := HM2.out.at_ HJ.out; have HG1 := Lib.hid hg1; have HB1 := Lib.hid hb1; have HROW1 := Lib.hid hrow1; have HCE := Lib.hid hcells1; have HLO := Lib.hid hlo1; have HMO := Lib.hid hmono1; have HAS := Lib.hid hast1; clear hg1 hb1 hrow1 hcells1 hlo1 hmono1 hast1)
    | (refine wpList_store_mid rfl _ _ _ rfl w.heap.size 0 #[.slice a l.length cap, .slice p2 0 n2, .slice p0 0 n0, .pointer none, .slice p1 0 n1, .pointer none, .string ByteArray.empty, .int .i64 0, .int .i64 0, .int .i64 0, .int .i64 0, .bool tc] rfl rfl HBC.out.2.1 HCL.out rfl ?_)
    | (refine wpList_load_mid rfl _ _ rfl b 0 rfl [.slice a l.length cap, .slice p2 0 n2, .slice p0 0 n0, .pointer none, .slice p1 0 n1, .pointer none, .string ByteArray.empty, .int .i64 0, .int .i64 0, .int .i64 0, .int .i64 0, .bool tc] _ HBC.out.1 Tryf.underlying128 rfl HCL.out ?_))
  go_end0
  obtain ⟨g2, n, hm9⟩ := HM2.out.last hr9 hg9
  have hrow := hm9.row
  have hwr := HM0.out.size
  have hgl := heap_lt HROW1.out
  have hgg := HG1.out
  have hp : w1.grownBy (w1.setCell ⟨w.heap.size, 0, none⟩ (.slice (some ⟨g', 0, none⟩) l.length cap')) (some w.heap.size) := grown_set _ _ _ _
  have hrow9 : w9.heap[g']? = some (.cells cur' 130) :=
    (hg9.block g' (Nat.lt_of_lt_of_le hgl hp.size) (fun e => by injection e with e; omega)).trans ((hp.block g' hgl (fun e => by injection e with e; omega)).trans HROW1.out)
  exact ⟨rfl, w.heap.size, hm9.cell, hm9.grown, .array (SS := fun i => Sub w (SS i) (lo i) (lo (i + 1))) w.heap.size g' cur' p0 g2 p2 n0 n n2 cap' tc (some ⟨g', 0, none⟩) (.inl (Nat.le_refl _)) (fun _ => ⟨rfl, .inl (by omega), by omega, hrow9⟩) hcap1 HCE.out
    (cse_in hwr hgg HLO.out HMO.out ss) (cse_apart hwr hgg HLO.out HMO.out dd) hrow (cse_parts hwr hgg HLO.out HMO.out HAS.out (grown_then hp hg9))⟩
end Go.Proofs.YtceepfnjdkfjnaaFmt
