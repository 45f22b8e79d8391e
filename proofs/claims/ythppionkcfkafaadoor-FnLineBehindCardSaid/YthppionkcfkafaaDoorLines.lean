/-
  spec.Utf, spec.Cut: what is asked of a text, and its lines. Conditions: the text's length.
-/
import Derived.Test.YthppionkcfkafaaDoorTree
import Derived.Test.YthppionkcfkafaaDoorUtf
import Derived.Lib.Hide
import Derived.LoopTactic
import Derived.OwnWalk
import Derived.Deep.AppendLies
import Derived.SliceStrings
namespace Go.Proofs.YthppionkcfkafaaDoor
open Go.ChangeShapes Go.WideShapes Go.ChangeAt Go.RowKit Go.Joins

theorem infoStr : (Tryd.prog.info? 9).map (fun i => (i.zero, i.size, i.bytes)) = some (some (.string ByteArray.empty), 1, 16) := by kernel_rfl
def str (l : List UInt8) : Value := .string ⟨l.toArray⟩
def strs (ls : List (List UInt8)) : List Value := ls.map str
theorem strs_len (ls : List (List UInt8)) : (strs ls).length = ls.length := by simp [strs]
theorem strs_snoc (ls : List (List UInt8)) (l : List UInt8) : strs (ls ++ [l]) = strs ls ++ [str l] := by simp [strs]
theorem strs_one {ls : List (List UInt8)} : ∀ v ∈ strs ls, v.oneCell' = true := fun v hv => by
  obtain ⟨l, _, rfl⟩ := List.mem_map.1 hv
  rfl
/-- A row of texts that the call owns. -/
def OwnS (base : Nat) (w : World) (v : Value) (ls : List (List UInt8)) : Prop := w.ownsRow base 9 1 v ls.length (strs ls)
/-- A row of texts, as it is read. -/
def StrRow (w : World) (v : Value) (ls : List (List UInt8)) : Prop :=
  ∃ g cap, v = .slice (some ⟨g, 0, none⟩) ls.length cap ∧ ls.length ≤ cap ∧ g < w.heap.size ∧ ∀ i l, ls[i]? = some l → w.cell? ⟨g, i, none⟩ = some (str l)
theorem StrRow.bel {w w' : World} {v : Value} {ls : List (List UInt8)} (h : StrRow w v ls) (hb : Below w.heap.size w w') : StrRow w' v ls := by
  obtain ⟨g, cap, rfl, hcap, hg, hc⟩ := h
  exact ⟨g, cap, rfl, hcap, Nat.lt_of_lt_of_le hg hb.size, fun i l hl => ((bcell hb).1 g i hg).trans (hc i l hl)⟩
theorem OwnS.row {base : Nat} {w : World} {v : Value} {ls : List (List UInt8)} (h : OwnS base w v ls) (h0 : 0 < ls.length) : StrRow w v ls := by
  rcases h.2 with ⟨_, h1⟩ | ⟨g, cap, cur, rfl, _, hh, hcap, _, hsz, htk⟩
  · omega
  · refine ⟨g, cap, rfl, hcap, lt_of_block hh, fun i l hl => ?_⟩
    have hi := (List.getElem?_eq_some_iff.1 hl).1
    refine (cell_of_row _ _ i _ _ _ hh).trans ?_
    have e : (strs ls)[i]? = some (str l) := by rw [strs, List.getElem?_map, hl]; rfl
    rw [← htk, List.getElem?_take_of_lt (by omega)] at e
    simpa using e
theorem OwnS.empty {base : Nat} {w : World} {g : Nat} (hb : base ≤ g) (hg : w.heap[g]? = some (.cells #[] 9)) : OwnS base w (.slice (some ⟨g, 0, none⟩) 0 0) [] :=
  ⟨rfl, .inr ⟨g, 0, #[], rfl, hb, hg, Nat.le_refl _, by unfold maxLen; omega, rfl, rfl⟩⟩
theorem OwnS.nil (base : Nat) (w : World) : OwnS base w (.slice none 0 0) [] := ⟨rfl, .inl ⟨rfl, rfl⟩⟩
theorem OwnS.bel {base : Nat} {w w' : World} {v : Value} {ls : List (List UInt8)} (h : OwnS base w v ls) (hb : Below w.heap.size w w') : OwnS base w' v ls := ownsRow_below h hb
theorem OwnS.kind {base : Nat} {w : World} {v : Value} {ls : List (List UInt8)} (h : OwnS base w v ls) : ∀ g, v.ownBlock = some g → base ≤ g ∧ ∃ c, w.heap[g]? = some (.cells c 9 (0, 0)) := fun g hg => by
  rcases h.2 with ⟨rfl, _⟩ | ⟨g', cap, cur, rfl, hb, hh, _⟩
  · simp [Value.ownBlock] at hg
  · simp [Value.ownBlock] at hg
    subst hg
    exact ⟨hb, cur, hh⟩
/-- One text more. -/
theorem str_append {w : World} {base : Nat} {ls : List (List UInt8)} {l : List UInt8} {v : Value} {src cp : Nat} (hown : OwnS base w v ls) (hsrc : w.heap[src]? = some (.cells #[str l] 9)) (hlen : ls.length ≤ 1000) (hbase : base ≤ w.heap.size)
    {ops : Array Oper} {rest : List Oper} {o : Oper} {a : Act} {Q : Exit → Act → World → Prop} (hgd : o.guard = none) (s x : Operand)
    (ho : o.op = .call { callee := .builtin .append, args := #[s, x], argTypes := #[36, 36] }) (hs : a.eval s = v) (hx : a.eval x = .slice (some ⟨src, 0, none⟩) 1 cp)
    (h : ∀ g cap w', OwnS base w' (.slice (some ⟨g, 0, none⟩) (ls.length + 1) cap) (ls ++ [l]) → w.grownBy w' v.ownBlock → wpList Tryd.prog ops Q rest (a.put o.dst (.slice (some ⟨g, 0, none⟩) (ls.length + 1) cap)) w') : wpList Tryd.prog ops Q (o :: rest) a w := by
  obtain ⟨i0, hi0, hz0, hs0, hb0⟩ := info_parts infoStr
  refine wpList_append_lies _ hgd s x 36 ho base 9 i0 (.string ByteArray.empty) 1 16 Tryd.underlying36 hi0 hz0 hs0 hb0 rfl (by omega) v ls.length (strs ls) hs hown ⟨src, 0, none⟩ 1 cp [str l] hx rfl (World.news_of_block hsrc) (by simp [str, Value.oneCell']) (by omega) (by unfold maxLen; omega) (by omega) hbase _ rfl ?_
  intro g cap w' hown' hgrow _ _
  refine h g cap w' ?_ hgrow
  unfold OwnS
  rw [strs_snoc, List.length_append]
  exact hown'

theorem bytes_eq {a b : ByteArray} (h : (a.toList == b.toList) = true) : a = b := by
  rw [ByteArray.toList_eq, ByteArray.toList_eq] at h
  have h' : a.data = b.data := Array.toList_inj.1 (eq_of_beq h)
  cases a; cases b
  exact congrArg ByteArray.mk h'
theorem take_next {l : List UInt8} {j : Nat} {b : UInt8} (h : l[j]? = some b) : l.take (j + 1) = l.take j ++ [b] := by rw [List.take_add_one, h]; rfl

theorem src_of (w : World) {x : ByteArray} {l : List UInt8} (h : x = ⟨l.toArray⟩) : (w.alloc (.cells #[Value.string x] 9)).heap[w.heap.size]? = some (.cells #[str l] 9) := by
  subst h
  exact heap_alloc_new _ _

/-! ### spec.Utf -/
theorem utf_facts (s : ByteArray) (hs : s.size ≤ 400) (w : World) : ∃ (n c : Nat) (cs : Array Value) (s2 : ByteArray),
    (convert 9 56 (.string s)).run Tryd.prog w = .ok (.slice (some ⟨w.heap.size, 0, none⟩) n c) ((w.alloc (.cells cs 21)).drew) ∧
    (convert 56 9 (.slice (some ⟨w.heap.size, 0, none⟩) n c)).run Tryd.prog ((w.alloc (.cells cs 21)).drew) = .ok (.string s2) ((w.alloc (.cells cs 21)).drew) ∧
    (s2 = s → Lib.runesFrom s s.size 0 = s.data.toList) := by
  have hc := convRunes_eq s s.size 0 #[]
  have hl := runesN_len s s.size 0
  have h46 : (Conv.runesFrom s s.size 0 #[]).size ≤ 70368744177664 := by
    rw [hc]
    simp
    omega
  have h1 := run_runes_of_string (P := Tryd.prog) w 9 56 21 s Tryd.underlying9 Tryd.underlying56 Tryd.underlying21 h46
  rw [hc] at h1
  obtain ⟨ns, hns⟩ : ∃ ns, runesN s s.size 0 = ns := ⟨_, rfl⟩
  rw [hns] at h1 hl
  obtain ⟨c, hcap⟩ : ∃ c, grownCap w (#[] ++ (ns.map (Value.int .i32)).toArray).size 0 21 = c := ⟨_, rfl⟩
  rw [hcap] at h1
  refine ⟨_, c, _, runesBytes ns, h1, ?_, fun h => ?_⟩
  · have e : (#[] ++ (ns.map (Value.int .i32)).toArray).size = ns.length := by simp
    rw [e]
    have h2 := run_convert_runes (P := Tryd.prog) ((w.alloc (.cells (#[] ++ (ns.map (Value.int .i32)).toArray ++ Array.replicate (c - ns.length) (.int .i32 0)) 21)).drew) 56 9 21 ⟨w.heap.size, 0, none⟩ ns.length c ns (Nat.le_refl _) Tryd.underlying56 Tryd.underlying21 Tryd.underlying9 (fun j hj => by
      rw [Addr.add_mid]
      show (w.alloc _).cell? ⟨w.heap.size, 0 + j, none⟩ = _
      rw [World.cell?_alloc_mark, Nat.zero_add]
      rw [Array.getElem?_append_left (by simp; exact hj)]
      simp [List.getD, List.getElem?_eq_getElem hj])
    rw [List.take_length] at h2
    exact h2
  · rw [← runesBytes_list, hns, h]
theorem utf_any (s : ByteArray) (hs : s.size ≤ 400) (w : World) : Calls Tryd.prog 11 #[.string s] w fun e w' => (∃ r : Bool, e = .returned (.bool r) ∧ (r = true → Lib.runesFrom s s.size 0 = s.data.toList)) ∧ Below w.heap.size w w' := by
  obtain ⟨n, c, cs, s2, h1, h2, h3⟩ := utf_facts s hs w
  have H3 := Lib.hid h3; clear h3
  go_enter Tryd.func11, Tryd.ntmps11
  go_wp2
  go_ret
  exact ⟨⟨_, rfl, fun h => H3.out (bytes_eq h)⟩, (below_alloc1 _ _).drew⟩

/-! ### spec.Cut -/
/-- What stands in a text from where its next line begins. -/
theorem cut_part (s : ByteArray) {j p : Nat} (hj : j ≤ s.size) (hp : p + (cutS (s.data.toList.take j)).2.length = j) : (s.data.toList.take j).drop p = (cutS (s.data.toList.take j)).2 := by
  obtain ⟨q, hq, _, hl⟩ := cutS_end (s.data.toList.take j)
  have hlen : (s.data.toList.take j).length = j := by rw [List.length_take, ← Lib.size_eq]; omega
  have e : q.length = p := by omega
  have := congrArg (List.drop p) hq
  rw [this, ← e, List.drop_left]
theorem cutS_len (l : List UInt8) : (cutS l).1.length + (cutS l).2.length ≤ l.length := by
  obtain ⟨_, _, h, _⟩ := cutS_end l
  exact h
theorem cutS_next_yes {l : List UInt8} {j : Nat} {b : UInt8} (h : l[j]? = some b) (hb : b = 10) : cutS (l.take (j + 1)) = ((cutS (l.take j)).1 ++ [(cutS (l.take j)).2 ++ [10]], []) := by
  subst hb
  rw [take_next h, cutS_newline]
theorem cutS_next_no {l : List UInt8} {j : Nat} {b : UInt8} (h : l[j]? = some b) (hb : b ≠ 10) : cutS (l.take (j + 1)) = ((cutS (l.take j)).1, (cutS (l.take j)).2 ++ [b]) := by
  rw [take_next h, cutS_snoc, cutStep, if_neg hb]
theorem bytes_of {a : ByteArray} {l : List UInt8} (h : a.data.toList = l) : a = ⟨l.toArray⟩ := by
  subst h
  cases a
  simp
theorem extract_list (s : ByteArray) (p q : Nat) : (s.extract p q).data.toList = (s.data.toList.take q).drop p := by
  rw [ByteArray.data_extract, Array.toList_extract, List.extract_eq_take_drop, List.drop_take]
theorem extract_next {s : ByteArray} {j p : Nat} (hj : j ≤ s.size) (hp : p + (cutS (s.data.toList.take j)).2.length = j) {b : UInt8} (hb : s.data.toList[j]? = some b) : (s.extract p (j + 1)).data.toList = (cutS (s.data.toList.take j)).2 ++ [b] := by
  rw [extract_list, take_next hb, List.drop_append_of_le_length (by rw [List.length_take, ← Lib.size_eq]; omega), cut_part s hj hp]
theorem extract_end {s : ByteArray} {p : Nat} (hp : p + (cutS (s.data.toList.take s.size)).2.length = s.size) : (s.extract p s.size ++ { data := #[10] } : ByteArray).data.toList = (cutS (s.data.toList.take s.size)).2 ++ [10] := by
  rw [ByteArray.data_append, Array.toList_append, extract_list, cut_part s (Nat.le_refl _) hp]
set_option maxRecDepth 100000 in
set_option maxHeartbeats 1600000 in
theorem cut_any (s : ByteArray) (hs : s.size ≤ 400) (w : World) : Calls Tryd.prog 14 #[.string s] w fun e w' => (∃ v, e = .returned v ∧ StrRow w' v (cutL s.data.toList)) ∧ Below w.heap.size w w' := by
  have hlen : s.data.toList.length = s.size := (Lib.size_eq s).symm
  have HLEN := Lib.hid hlen; clear hlen
  go_enter Tryd.func14, Tryd.ntmps14
  go_wp2
  go_loopw [3, 4, 9] (fun v fr i wr => ∃ j p : Nat, j ≤ s.size ∧ i = .int .i64 j ∧ fr = .int .i64 p ∧ p + (cutS (s.data.toList.take j)).2.length = j ∧ OwnS w.heap.size wr v (cutS (s.data.toList.take j)).1 ∧ Below w.heap.size w wr) (fun _ _ i _ => s.size - (intOf i).toNat)
  case atStart => exact ⟨0, 0, Nat.zero_le _, rfl, rfl, by simp [cutS], OwnS.empty (Nat.le_refl _) (heap_alloc_new w _), below_alloc1 _ _⟩
  case round =>
    obtain ⟨j, p, hj, rfl, rfl, hp, hO, hB⟩ := hrel
    have HO := Lib.hid hO; clear hO
    have HP := Lib.hid hp
    have hcl := cutS_len (s.data.toList.take j)
    have hlt : (s.data.toList.take j).length ≤ 400 := by rw [List.length_take, HLEN.out]; omega
    obtain ⟨L, hL⟩ : ∃ L, (cutS (s.data.toList.take j)).1.length = L := ⟨_, rfl⟩
    have hL4 : L ≤ 400 := by omega
    have HL := Lib.hid hL; clear hL hcl hlt
    have hpj : p ≤ j := by omega
    clear hp
    by_cases hjl : j < s.size
    · obtain ⟨b, hb⟩ : ∃ b, s.data.toList[j]? = some b := ⟨_, List.getElem?_eq_getElem (by rw [HLEN.out]; exact hjl)⟩
      have HBY := Lib.hid hb; clear hb
      have hsb : (s[j]'hjl) = b := by
        have := HBY.out
        rw [List.getElem?_eq_getElem (by rw [HLEN.out]; exact hjl)] at this
        have h2 : s.data[j] = b := by simpa using this
        exact h2
      have hB1 := hB.alloc hB.size (.cells #[Value.string (s.extract p (j + 1))] 9)
      by_cases hn : b = 10
      · have d : (((s[j]'hjl).toNat : Int) == 10) = true := by rw [hsb, hn]; rfl
        have HCUT := Lib.hid (cutS_next_yes HBY.out hn)
        have HEX := Lib.hid (bytes_of (extract_next (j := j) (p := p) (Nat.le_of_lt hjl) HP.out (by rw [HBY.out, hn])))
        have HBB := Lib.hid hB1
        clear hsb hn hB1 hB
        go_wp2_with (at_builtin; refine str_append (HO.out.bel (below_alloc1 wr (.cells #[Value.string (s.extract p (j + 1))] 9))) (src := wr.heap.size) (cp := 1) (src_of wr HEX.out) (by rw [HL.out]; omega) HBB.out.size rfl (.tmp 16) (.tmp 22) rfl rfl rfl ?_; intro g cap1 w' hown hgrow)
        have hBg := HBB.out.grown hgrow HBB.out.size (fun k hk => (HO.out.kind k hk).1)
        have HOW := Lib.hid hown; clear hown
        go_wp2
        go_roundw
        case rel => exact ⟨j + 1, j + 1, by omega, by go_num, by go_num, by rw [HCUT.out]; rfl, by rw [HCUT.out]; exact HOW.out, hBg⟩
        case measure => simp [intOf]; omega
      · have d : (((s[j]'hjl).toNat : Int) == 10) = false := by
          rw [hsb]
          have : b.toNat ≠ 10 := fun h => hn (UInt8.toNat_inj.1 h)
          rw [beq_eq_false_iff_ne]
          omega
        have HCUT := Lib.hid (cutS_next_no HBY.out hn)
        clear hsb hn hB1
        go_wp2
        go_roundw
        case rel => exact ⟨j + 1, p, by omega, by go_num, rfl, by rw [HCUT.out]; have := HP.out; simp; omega, by rw [HCUT.out]; exact HO.out, hB⟩
        case measure => simp [intOf]; omega
    · have hje : j = s.size := by omega
      subst hje
      have hall : s.data.toList.take s.size = s.data.toList := List.take_of_length_le (Nat.le_of_eq HLEN.out)
      have HEX := Lib.hid (bytes_of (extract_end (p := p) HP.out))
      have hB1 := hB.alloc hB.size (.cells #[Value.string (s.extract p s.size ++ { data := #[10] })] 9)
      have HBB := Lib.hid hB1
      have HALL := Lib.hid hall
      clear hB1 hB hall
      go_wp2_with (at_builtin; refine str_append (HO.out.bel (below_alloc1 wr (.cells #[Value.string _] 9))) (src := wr.heap.size) (cp := 1) (src_of wr (bytes_of (extract_end HP.out))) (by rw [HL.out]; omega) (by have := HBB.out.size; simpa using this) rfl (.tmp 27) (.tmp 32) rfl rfl rfl ?_; intro g cap1 w' hown hgrow)
      have hBg := HBB.out.grown hgrow HBB.out.size (fun k hk => (HO.out.kind k hk).1)
      have HOW := Lib.hid hown; clear hown
      go_wp2
      go_ret
      refine ⟨⟨_, rfl, ?_⟩, hBg⟩
      rw [show cutL s.data.toList = (cutS (s.data.toList.take s.size)).1 ++ [(cutS (s.data.toList.take s.size)).2 ++ [10]] from by rw [HALL.out]; rfl]
      exact HOW.out.row (by simp)
end Go.Proofs.YthppionkcfkafaaDoor
