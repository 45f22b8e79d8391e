/-
  parser.thunkChildren, parser.specialChildren, by kinds. Conditions: the number of arguments and elements.
-/
import Derived.Test.YthppionkcfkafaaFmtDirect
import Derived.Deep.AppendLies
namespace Go.Proofs.YthppionkcfkafaaFmt
open Go.ChangeShapes Go.WideShapes Go.ChangeAt Go.RowKit Go.Joins
attribute [local go_sem] ta_Apply ta_ApplyBrace ta_Array ta_ArrayComp ta_Assert ta_Binary ta_Conditional ta_DesugaredObject ta_Dollar ta_Error ta_Function ta_Import ta_ImportBin ta_ImportStr ta_InSuper ta_Index ta_LiteralBoolean ta_LiteralNull ta_LiteralNumber ta_LiteralString ta_Local ta_Object ta_ObjectComp ta_Parens ta_Self ta_Slice ta_SuperIndex ta_Unary ta_Var ne_nil1 ne_nil0 eq_nil1 eq_nil0

theorem infoND : (Tryf.prog.info? 40).map (fun i => (i.zero, i.size, i.bytes)) = some (some .nilIface, 1, 16) := by kernel_rfl
theorem owns_form {w : World} {base : Nat} {T : TypeId} {v : Value} {n : Nat} {xs : List Value} (h : w.ownsRow base T 1 v n xs) : ∃ va vc, v = .slice va n vc := by
  rcases h.2 with ⟨rfl, h0⟩ | ⟨g, c, cur, rfl, _⟩
  · exact ⟨none, 0, by rw [h0]⟩
  · exact ⟨_, c, rfl⟩
/-- A slice of nodes in one world, whose trees lay in a world ahead of it. -/
def RowIn (w0 w : World) (l : List Tr) (v : Value) : Prop :=
  ∃ (b off cap : Nat) (a : Option Addr), v = .slice a l.length cap ∧ l.length ≤ cap ∧ (0 < l.length → a = some ⟨b, off, none⟩) ∧ ∀ i t, l[i]? = some t → ∃ y c, w.cell? ⟨b, off + i, none⟩ = some (.iface y (.pointer (some ⟨c, 0, none⟩))) ∧ NodeAt w0 t y c
theorem rowIn_owns {w0 w : World} {l : List Tr} {base : Nat} {T : TypeId} {v : Value} {xs : List Value} {ys bs : Nat → Nat} (ho : w.ownsRow base T 1 v l.length xs)
    (hx : ∀ i, i < l.length → xs[i]? = some (Value.iface (ys i) (.pointer (some ⟨bs i, 0, none⟩)))) (NN : ∀ (i : Nat) (t : Tr), l[i]? = some t → NodeAt w0 t (ys i) (bs i)) : RowIn w0 w l v := by
  rcases ho.2 with ⟨rfl, h0⟩ | ⟨g, cap, cur, rfl, hg, hh, hcap, _, hsz, htk⟩
  · obtain rfl := List.eq_nil_of_length_eq_zero h0
    exact ⟨0, 0, 0, none, rfl, Nat.zero_le _, fun h => absurd h (by simp), fun i t h => by simp at h⟩
  · refine ⟨g, 0, cap, _, rfl, hcap, fun _ => rfl, fun i t ht => ?_⟩
    have hi := (List.getElem?_eq_some_iff.1 ht).1
    refine ⟨ys i, bs i, ?_, NN i t ht⟩
    rw [Nat.zero_add]
    refine cell_of hh ?_
    have hv := hx i hi
    rw [← htk] at hv
    rw [List.getElem?_take_of_lt (by omega)] at hv
    simpa using hv
set_option maxRecDepth 100000 in
set_option maxHeartbeats 4000000 in
theorem thunkChildren_LiteralNull (v : Value) (w : World) : Calls Tryf.prog 37 #[.iface 142 v] w fun e w' => e = .returned (.slice none 0 0) ∧ w = w' := by
  go_enter Tryf.func37, Tryf.ntmps37
  go_wp2
  go_ret
  exact ⟨rfl, rfl⟩
set_option maxRecDepth 100000 in
set_option maxHeartbeats 4000000 in
theorem thunkChildren_LiteralBoolean (v : Value) (w : World) : Calls Tryf.prog 37 #[.iface 143 v] w fun e w' => e = .returned (.slice none 0 0) ∧ w = w' := by
  go_enter Tryf.func37, Tryf.ntmps37
  go_wp2
  go_ret
  exact ⟨rfl, rfl⟩
set_option maxRecDepth 100000 in
set_option maxHeartbeats 4000000 in
theorem thunkChildren_LiteralNumber (v : Value) (w : World) : Calls Tryf.prog 37 #[.iface 146 v] w fun e w' => e = .returned (.slice none 0 0) ∧ w = w' := by
  go_enter Tryf.func37, Tryf.ntmps37
  go_wp2
  go_ret
  exact ⟨rfl, rfl⟩
set_option maxRecDepth 100000 in
set_option maxHeartbeats 4000000 in
theorem thunkChildren_LiteralString (v : Value) (w : World) : Calls Tryf.prog 37 #[.iface 149 v] w fun e w' => e = .returned (.slice none 0 0) ∧ w = w' := by
  go_enter Tryf.func37, Tryf.ntmps37
  go_wp2
  go_ret
  exact ⟨rfl, rfl⟩
set_option maxRecDepth 100000 in
set_option maxHeartbeats 4000000 in
theorem thunkChildren_Self (v : Value) (w : World) : Calls Tryf.prog 37 #[.iface 153 v] w fun e w' => e = .returned (.slice none 0 0) ∧ w = w' := by
  go_enter Tryf.func37, Tryf.ntmps37
  go_wp2
  go_ret
  exact ⟨rfl, rfl⟩
set_option maxRecDepth 100000 in
set_option maxHeartbeats 4000000 in
theorem thunkChildren_Dollar (v : Value) (w : World) : Calls Tryf.prog 37 #[.iface 154 v] w fun e w' => e = .returned (.slice none 0 0) ∧ w = w' := by
  go_enter Tryf.func37, Tryf.ntmps37
  go_wp2
  go_ret
  exact ⟨rfl, rfl⟩
set_option maxRecDepth 100000 in
set_option maxHeartbeats 4000000 in
theorem thunkChildren_Var (v : Value) (w : World) : Calls Tryf.prog 37 #[.iface 155 v] w fun e w' => e = .returned (.slice none 0 0) ∧ w = w' := by
  go_enter Tryf.func37, Tryf.ntmps37
  go_wp2
  go_ret
  exact ⟨rfl, rfl⟩
set_option maxRecDepth 100000 in
set_option maxHeartbeats 4000000 in
theorem thunkChildren_Unary (v : Value) (w : World) : Calls Tryf.prog 37 #[.iface 52 v] w fun e w' => e = .returned (.slice none 0 0) ∧ w = w' := by
  go_enter Tryf.func37, Tryf.ntmps37
  go_wp2
  go_ret
  exact ⟨rfl, rfl⟩
set_option maxRecDepth 100000 in
set_option maxHeartbeats 4000000 in
theorem thunkChildren_Binary (v : Value) (w : World) : Calls Tryf.prog 37 #[.iface 70 v] w fun e w' => e = .returned (.slice none 0 0) ∧ w = w' := by
  go_enter Tryf.func37, Tryf.ntmps37
  go_wp2
  go_ret
  exact ⟨rfl, rfl⟩
set_option maxRecDepth 100000 in
set_option maxHeartbeats 4000000 in
theorem thunkChildren_Conditional (v : Value) (w : World) : Calls Tryf.prog 37 #[.iface 74 v] w fun e w' => e = .returned (.slice none 0 0) ∧ w = w' := by
  go_enter Tryf.func37, Tryf.ntmps37
  go_wp2
  go_ret
  exact ⟨rfl, rfl⟩
set_option maxRecDepth 100000 in
set_option maxHeartbeats 4000000 in
theorem thunkChildren_ApplyBrace (v : Value) (w : World) : Calls Tryf.prog 37 #[.iface 83 v] w fun e w' => e = .returned (.slice none 0 0) ∧ w = w' := by
  go_enter Tryf.func37, Tryf.ntmps37
  go_wp2
  go_ret
  exact ⟨rfl, rfl⟩
set_option maxRecDepth 100000 in
set_option maxHeartbeats 4000000 in
theorem thunkChildren_Index (v : Value) (w : World) : Calls Tryf.prog 37 #[.iface 86 v] w fun e w' => e = .returned (.slice none 0 0) ∧ w = w' := by
  go_enter Tryf.func37, Tryf.ntmps37
  go_wp2
  go_ret
  exact ⟨rfl, rfl⟩
set_option maxRecDepth 100000 in
set_option maxHeartbeats 4000000 in
theorem thunkChildren_Error (v : Value) (w : World) : Calls Tryf.prog 37 #[.iface 120 v] w fun e w' => e = .returned (.slice none 0 0) ∧ w = w' := by
  go_enter Tryf.func37, Tryf.ntmps37
  go_wp2
  go_ret
  exact ⟨rfl, rfl⟩
set_option maxRecDepth 100000 in
set_option maxHeartbeats 4000000 in
theorem thunkChildren_Parens (v : Value) (w : World) : Calls Tryf.prog 37 #[.iface 129 v] w fun e w' => e = .returned (.slice none 0 0) ∧ w = w' := by
  go_enter Tryf.func37, Tryf.ntmps37
  go_wp2
  go_ret
  exact ⟨rfl, rfl⟩
set_option maxRecDepth 100000 in
set_option maxHeartbeats 4000000 in
theorem specialChildren_LiteralNull (v : Value) (w : World) : Calls Tryf.prog 38 #[.iface 142 v] w fun e w' => e = .returned (.slice none 0 0) ∧ w = w' := by
  go_enter Tryf.func38, Tryf.ntmps38
  go_wp2
  go_ret
  exact ⟨rfl, rfl⟩
set_option maxRecDepth 100000 in
set_option maxHeartbeats 4000000 in
theorem specialChildren_LiteralBoolean (v : Value) (w : World) : Calls Tryf.prog 38 #[.iface 143 v] w fun e w' => e = .returned (.slice none 0 0) ∧ w = w' := by
  go_enter Tryf.func38, Tryf.ntmps38
  go_wp2
  go_ret
  exact ⟨rfl, rfl⟩
set_option maxRecDepth 100000 in
set_option maxHeartbeats 4000000 in
theorem specialChildren_LiteralNumber (v : Value) (w : World) : Calls Tryf.prog 38 #[.iface 146 v] w fun e w' => e = .returned (.slice none 0 0) ∧ w = w' := by
  go_enter Tryf.func38, Tryf.ntmps38
  go_wp2
  go_ret
  exact ⟨rfl, rfl⟩
set_option maxRecDepth 100000 in
set_option maxHeartbeats 4000000 in
theorem specialChildren_LiteralString (v : Value) (w : World) : Calls Tryf.prog 38 #[.iface 149 v] w fun e w' => e = .returned (.slice none 0 0) ∧ w = w' := by
  go_enter Tryf.func38, Tryf.ntmps38
  go_wp2
  go_ret
  exact ⟨rfl, rfl⟩
set_option maxRecDepth 100000 in
set_option maxHeartbeats 4000000 in
theorem specialChildren_Self (v : Value) (w : World) : Calls Tryf.prog 38 #[.iface 153 v] w fun e w' => e = .returned (.slice none 0 0) ∧ w = w' := by
  go_enter Tryf.func38, Tryf.ntmps38
  go_wp2
  go_ret
  exact ⟨rfl, rfl⟩
set_option maxRecDepth 100000 in
set_option maxHeartbeats 4000000 in
theorem specialChildren_Dollar (v : Value) (w : World) : Calls Tryf.prog 38 #[.iface 154 v] w fun e w' => e = .returned (.slice none 0 0) ∧ w = w' := by
  go_enter Tryf.func38, Tryf.ntmps38
  go_wp2
  go_ret
  exact ⟨rfl, rfl⟩
set_option maxRecDepth 100000 in
set_option maxHeartbeats 4000000 in
theorem specialChildren_Var (v : Value) (w : World) : Calls Tryf.prog 38 #[.iface 155 v] w fun e w' => e = .returned (.slice none 0 0) ∧ w = w' := by
  go_enter Tryf.func38, Tryf.ntmps38
  go_wp2
  go_ret
  exact ⟨rfl, rfl⟩
set_option maxRecDepth 100000 in
set_option maxHeartbeats 4000000 in
theorem specialChildren_Unary (v : Value) (w : World) : Calls Tryf.prog 38 #[.iface 52 v] w fun e w' => e = .returned (.slice none 0 0) ∧ w = w' := by
  go_enter Tryf.func38, Tryf.ntmps38
  go_wp2
  go_ret
  exact ⟨rfl, rfl⟩
set_option maxRecDepth 100000 in
set_option maxHeartbeats 4000000 in
theorem specialChildren_Binary (v : Value) (w : World) : Calls Tryf.prog 38 #[.iface 70 v] w fun e w' => e = .returned (.slice none 0 0) ∧ w = w' := by
  go_enter Tryf.func38, Tryf.ntmps38
  go_wp2
  go_ret
  exact ⟨rfl, rfl⟩
set_option maxRecDepth 100000 in
set_option maxHeartbeats 4000000 in
theorem specialChildren_Conditional (v : Value) (w : World) : Calls Tryf.prog 38 #[.iface 74 v] w fun e w' => e = .returned (.slice none 0 0) ∧ w = w' := by
  go_enter Tryf.func38, Tryf.ntmps38
  go_wp2
  go_ret
  exact ⟨rfl, rfl⟩
set_option maxRecDepth 100000 in
set_option maxHeartbeats 4000000 in
theorem specialChildren_ApplyBrace (v : Value) (w : World) : Calls Tryf.prog 38 #[.iface 83 v] w fun e w' => e = .returned (.slice none 0 0) ∧ w = w' := by
  go_enter Tryf.func38, Tryf.ntmps38
  go_wp2
  go_ret
  exact ⟨rfl, rfl⟩
set_option maxRecDepth 100000 in
set_option maxHeartbeats 4000000 in
theorem specialChildren_Index (v : Value) (w : World) : Calls Tryf.prog 38 #[.iface 86 v] w fun e w' => e = .returned (.slice none 0 0) ∧ w = w' := by
  go_enter Tryf.func38, Tryf.ntmps38
  go_wp2
  go_ret
  exact ⟨rfl, rfl⟩
set_option maxRecDepth 100000 in
set_option maxHeartbeats 4000000 in
theorem specialChildren_Error (v : Value) (w : World) : Calls Tryf.prog 38 #[.iface 120 v] w fun e w' => e = .returned (.slice none 0 0) ∧ w = w' := by
  go_enter Tryf.func38, Tryf.ntmps38
  go_wp2
  go_ret
  exact ⟨rfl, rfl⟩
set_option maxRecDepth 100000 in
set_option maxHeartbeats 4000000 in
theorem specialChildren_Parens (v : Value) (w : World) : Calls Tryf.prog 38 #[.iface 129 v] w fun e w' => e = .returned (.slice none 0 0) ∧ w = w' := by
  go_enter Tryf.func38, Tryf.ntmps38
  go_wp2
  go_ret
  exact ⟨rfl, rfl⟩
set_option maxRecDepth 100000 in
set_option maxHeartbeats 4000000 in
theorem specialChildren_Apply (v : Value) (w : World) : Calls Tryf.prog 38 #[.iface 81 v] w fun e w' => e = .returned (.slice none 0 0) ∧ w = w' := by
  go_enter Tryf.func38, Tryf.ntmps38
  go_wp2
  go_ret
  exact ⟨rfl, rfl⟩
set_option maxRecDepth 100000 in
set_option maxHeartbeats 4000000 in
theorem specialChildren_Array (v : Value) (w : World) : Calls Tryf.prog 38 #[.iface 94 v] w fun e w' => e = .returned (.slice none 0 0) ∧ w = w' := by
  go_enter Tryf.func38, Tryf.ntmps38
  go_wp2
  go_ret
  exact ⟨rfl, rfl⟩
theorem news_at2 (w : World) (o : Obj) (cs : Array Value) (t : TypeId) (g : Nat) (hg : g = w.heap.size + 1) {l : List Value} (hl : l = cs.toList) : ∀ j u, l[j]? = some u → ((w.alloc o).alloc (.cells cs t)).cell? ((⟨g, 0, none⟩ : Addr).add j) = some u := by
  subst hl
  have e : g = (w.alloc o).heap.size := by simpa using hg
  subst e
  exact World.news_of_block (heap_alloc_new _ _)
set_option maxRecDepth 100000 in
set_option maxHeartbeats 4000000 in
theorem thunk_array {w0 w : World} {b g : Nat} {cur : Array Value} {p0 p1 p2 : Option Addr} {n0 n1 n2 cap : Nat} {tc : Bool} {a : Option Addr} {l : List Tr} {ys bs : Nat → Nat} {ps : Nat → Option Addr} {ns : Nat → Nat}
    (hg : 0 < l.length → a = some ⟨g, 0, none⟩ ∧ w.heap[g]? = some (.cells cur 99))
    (hr : ∀ i, i < l.length → cur[i * 2]? = some (.iface (ys i) (.pointer (some ⟨bs i, 0, none⟩))) ∧ cur[i * 2 + 1]? = some (.slice (ps i) 0 (ns i)))
    (hb : w.heap[b]? = some (.cells #[.slice a l.length cap, .slice p2 0 n2, .slice p0 0 n0, .pointer none, .slice p1 0 n1, .pointer none, .string ByteArray.empty, .int .i64 0, .int .i64 0, .int .i64 0, .int .i64 0, .bool tc] 97)) (hl : l.length ≤ 6) (NN : ∀ i t, l[i]? = some t → NodeAt w0 t (ys i) (bs i)) :
    Calls Tryf.prog 37 #[.iface 94 (.pointer (some ⟨b, 0, none⟩))] w fun e w' => (∃ v, e = .returned v ∧ RowIn w0 w' l v) ∧ Below w.heap.size w w' := by
  obtain ⟨i0, hi0, hz0, hs0, hb0⟩ := info_parts infoND
  have HB := Lib.hid hb; have HG := Lib.hid hg; have HRR := Lib.hid hr; have HNN := Lib.hid NN
  have zb := heap_lt hb
  have q0 := cell_of (j := 0) hb rfl
  clear hb hg hr NN
  go_enter Tryf.func37, Tryf.ntmps37
  go_wp2_with fail
  go_loopw [11, 86] (fun v i wr => ∃ j xs, j ≤ l.length ∧ i = .int .i64 (j : Nat) ∧ wr.ownsRow w.heap.size 40 1 v j xs ∧ (∀ i, i < j → xs[i]? = some (Value.iface (ys i) (.pointer (some ⟨bs i, 0, none⟩)))) ∧ xs.length = j ∧ Below w.heap.size w wr) (fun _ i _ => l.length - (intOf i).toNat)
  case atStart => exact ⟨0, [], Nat.zero_le _, rfl, ⟨rfl, .inl ⟨rfl, rfl⟩⟩, fun i h => absurd h (by omega), rfl, Below.refl _ _⟩
  case round =>
    obtain ⟨j, xs, hj, rfl, hown, hxs, hxl, hB⟩ := hrel
    obtain ⟨va, vc, rfl⟩ := owns_form hown
    have HO := Lib.hid hown; have HXS := Lib.hid hxs; have HXL := Lib.hid hxl; clear hown hxs hxl
    by_cases hjl : j < l.length
    · obtain ⟨rfl, hgb⟩ := HG.out (by omega)
      have hgr := (hB.block g (heap_lt hgb)).trans hgb
      have c0 : wr.cell? ⟨g, j * 2, none⟩ = some (.iface (ys j) (.pointer (some ⟨bs j, 0, none⟩))) := cell_of hgr (HRR.out j hjl).1
      have c1 : wr.cell? ⟨g, j * 2 + 1, none⟩ = some (.slice (ps j) 0 (ns j)) := cell_of hgr (HRR.out j hjl).2
      have zgr : g < wr.heap.size := heap_lt hgr
      clear hgb hgr
      have zw := hB.size
      have HB5 := Lib.hid (below_alloc2 wr (.cells #[.iface (ys j) (.pointer (some ⟨bs j, 0, none⟩)), .slice (ps j) 0 (ns j)] 99) (.cells #[.iface (ys j) (.pointer (some ⟨bs j, 0, none⟩))] 40))
      have HO5 := Lib.hid (ownsRow_below HO.out HB5.out)
      have HBR := Lib.hid hB; clear hB
      go_wp2_with (at_builtin; refine wpList_append_lies _ rfl (.tmp 90) (.tmp 93) 44 rfl w.heap.size 40 i0 .nilIface 1 16 Tryf.underlying44 hi0 hz0 hs0 hb0 rfl (by omega) (.slice va j vc) j xs rfl HO5.out ⟨wr.heap.size + 1, 0, none⟩ 1 1 [.iface (ys j) (.pointer (some ⟨bs j, 0, none⟩))] rfl rfl (news_at2 wr _ _ _ _ rfl rfl) (by simp [Value.oneCell']) (by omega) (by unfold maxLen; omega) (by omega) (by simp; omega) _ rfl ?_; intro g6 cap1 w6 hown6 hgrow6 hat6 hlt6)
      have HO6 := Lib.hid hown6
      have HB6 := Lib.hid ((HBR.out.trans (HB5.out.mono HBR.out.size)).grown hgrow6 (Nat.le_trans HBR.out.size HB5.out.size) (fun k hk => (HO5.out.lt k hk).1))
      have HX6 := Lib.hid (show ∀ i, i < j + 1 → (xs ++ [Value.iface (ys j) (.pointer (some ⟨bs j, 0, none⟩))])[i]? = some (Value.iface (ys i) (.pointer (some ⟨bs i, 0, none⟩))) from fun i hi => by
        by_cases e : i < j
        · rw [List.getElem?_append_left (by have := HXL.out; omega)]; exact HXS.out i e
        · obtain rfl : i = j := by omega
          rw [List.getElem?_append_right (by have := HXL.out; omega), HXL.out, Nat.sub_self]; rfl)
      clear hown6 hgrow6 hat6 c0 c1
      go_wp2
      go_roundw
      case rel => exact ⟨j + 1, _, by omega, by go_num, HO6.out, HX6.out, by simp [HXL.out], HB6.out⟩
      case measure => simp [intOf]; omega
    · obtain rfl : j = l.length := by omega
      have HBR := Lib.hid hB; clear hB
      go_wp2
      go_ret
      exact ⟨⟨_, rfl, rowIn_owns HO.out HXS.out HNN.out⟩, HBR.out⟩
set_option maxRecDepth 100000 in
set_option maxHeartbeats 4000000 in
theorem thunk_apply {w0 w : World} {b g : Nat} {cur : Array Value} {p0 p1 p2 p3 p4 p5 : Option Addr} {n0 n1 n2 n3 n4 n5 cap : Nat} {tc : Bool} {a : Option Addr} {y1 : TypeId} {b1 : Nat} {l : List Tr} {ys bs : Nat → Nat} {ps : Nat → Option Addr} {ns : Nat → Nat}
    (hg : 0 < l.length → a = some ⟨g, 0, none⟩ ∧ w.heap[g]? = some (.cells cur 99))
    (hr : ∀ i, i < l.length → cur[i * 2]? = some (.iface (ys i) (.pointer (some ⟨bs i, 0, none⟩))) ∧ cur[i * 2 + 1]? = some (.slice (ps i) 0 (ns i)))
    (hb : w.heap[b]? = some (.cells #[.iface y1 (.pointer (some ⟨b1, 0, none⟩)), .slice p2 0 n2, .slice a l.length cap, .slice p3 0 n3, .slice p4 0 n4, .slice p5 0 n5, .slice p0 0 n0, .pointer none, .slice p1 0 n1, .pointer none, .string ByteArray.empty, .int .i64 0, .int .i64 0, .int .i64 0, .int .i64 0, .bool tc, .bool false] 139)) (hl : l.length ≤ 6) (NN : ∀ i t, l[i]? = some t → NodeAt w0 t (ys i) (bs i)) :
    Calls Tryf.prog 37 #[.iface 81 (.pointer (some ⟨b, 0, none⟩))] w fun e w' => (∃ v, e = .returned v ∧ RowIn w0 w' l v) ∧ Below w.heap.size w w' := by
  obtain ⟨i0, hi0, hz0, hs0, hb0⟩ := info_parts infoND
  have HB := Lib.hid hb; have HG := Lib.hid hg; have HRR := Lib.hid hr; have HNN := Lib.hid NN
  have zb := heap_lt hb
  have q0 := cell_of (j := 2) hb rfl
  have Q3 := Lib.hid (cell_of (j := 3) hb rfl)
  clear hb hg hr NN
  go_enter Tryf.func37, Tryf.ntmps37
  go_wp2_with fail
  go_loopw [4, 48] (fun v i wr => ∃ j xs, j ≤ l.length ∧ i = .int .i64 (j : Nat) ∧ wr.ownsRow w.heap.size 40 1 v j xs ∧ (∀ i, i < j → xs[i]? = some (Value.iface (ys i) (.pointer (some ⟨bs i, 0, none⟩)))) ∧ xs.length = j ∧ Below w.heap.size w wr) (fun _ i _ => l.length - (intOf i).toNat)
  case atStart => exact ⟨0, [], Nat.zero_le _, rfl, ⟨rfl, .inl ⟨rfl, rfl⟩⟩, fun i h => absurd h (by omega), rfl, Below.refl _ _⟩
  case round =>
    obtain ⟨j, xs, hj, rfl, hown, hxs, hxl, hB⟩ := hrel
    obtain ⟨va, vc, rfl⟩ := owns_form hown
    have HO := Lib.hid hown; have HXS := Lib.hid hxs; have HXL := Lib.hid hxl; clear hown hxs hxl
    by_cases hjl : j < l.length
    · obtain ⟨rfl, hgb⟩ := HG.out (by omega)
      have hgr := (hB.block g (heap_lt hgb)).trans hgb
      have c0 : wr.cell? ⟨g, j * 2, none⟩ = some (.iface (ys j) (.pointer (some ⟨bs j, 0, none⟩))) := cell_of hgr (HRR.out j hjl).1
      have c1 : wr.cell? ⟨g, j * 2 + 1, none⟩ = some (.slice (ps j) 0 (ns j)) := cell_of hgr (HRR.out j hjl).2
      have zgr : g < wr.heap.size := heap_lt hgr
      clear hgb hgr
      have zw := hB.size
      have HB5 := Lib.hid (below_alloc2 wr (.cells #[.iface (ys j) (.pointer (some ⟨bs j, 0, none⟩)), .slice (ps j) 0 (ns j)] 99) (.cells #[.iface (ys j) (.pointer (some ⟨bs j, 0, none⟩))] 40))
      have HO5 := Lib.hid (ownsRow_below HO.out HB5.out)
      have HBR := Lib.hid hB; clear hB
      go_wp2_with (at_builtin; refine wpList_append_lies _ rfl (.tmp 52) (.tmp 55) 44 rfl w.heap.size 40 i0 .nilIface 1 16 Tryf.underlying44 hi0 hz0 hs0 hb0 rfl (by omega) (.slice va j vc) j xs rfl HO5.out ⟨wr.heap.size + 1, 0, none⟩ 1 1 [.iface (ys j) (.pointer (some ⟨bs j, 0, none⟩))] rfl rfl (news_at2 wr _ _ _ _ rfl rfl) (by simp [Value.oneCell']) (by omega) (by unfold maxLen; omega) (by omega) (by simp; omega) _ rfl ?_; intro g6 cap1 w6 hown6 hgrow6 hat6 hlt6)
      have HO6 := Lib.hid hown6
      have HB6 := Lib.hid ((HBR.out.trans (HB5.out.mono HBR.out.size)).grown hgrow6 (Nat.le_trans HBR.out.size HB5.out.size) (fun k hk => (HO5.out.lt k hk).1))
      have HX6 := Lib.hid (show ∀ i, i < j + 1 → (xs ++ [Value.iface (ys j) (.pointer (some ⟨bs j, 0, none⟩))])[i]? = some (Value.iface (ys i) (.pointer (some ⟨bs i, 0, none⟩))) from fun i hi => by
        by_cases e : i < j
        · rw [List.getElem?_append_left (by have := HXL.out; omega)]; exact HXS.out i e
        · obtain rfl : i = j := by omega
          rw [List.getElem?_append_right (by have := HXL.out; omega), HXL.out, Nat.sub_self]; rfl)
      clear hown6 hgrow6 hat6 c0 c1
      go_wp2
      go_roundw
      case rel => exact ⟨j + 1, _, by omega, by go_num, HO6.out, HX6.out, by simp [HXL.out], HB6.out⟩
      case measure => simp [intOf]; omega
    · obtain rfl : j = l.length := by omega
      have q3 := ((bcell hB).1 b 3 zb).trans Q3.out
      have zbr : b < wr.heap.size := Nat.lt_of_lt_of_le zb hB.size
      have HBR := Lib.hid hB; clear hB
      go_wp2
      go_loop [4, 64] (fun v i => v = .slice va l.length vc ∧ i = .int .i64 0) (fun _ _ => 0)
      case atStart => exact ⟨rfl, rfl⟩
      case round =>
        obtain ⟨rfl, rfl⟩ := hrel
        go_wp2
        go_ret
        exact ⟨⟨_, rfl, rowIn_owns HO.out HXS.out HNN.out⟩, HBR.out⟩
end Go.Proofs.YthppionkcfkafaaFmt

