/-
  parser.Children: what is right below a node. Conditions: spec.Tree's; no object.
-/
import Derived.Test.YthppionkcfkafaaFmtThunk
import Derived.Test.YthppionkcfkafaaFmtSub
import Derived.Deep.MidRow
namespace Go.Proofs.YthppionkcfkafaaFmt
open Go.ChangeShapes Go.WideShapes Go.ChangeAt Go.RowKit Go.Joins

/-- What is right below a node and not in its own surroundings. -/
def thunkF (t : Tr) : List Tr := if t.k = 13 then (t.subs.drop 1).map unarg else if t.k = 18 then t.subs else []
theorem rowIn_nil (w0 w : World) (a : Option Addr) (c : Nat) : RowIn w0 w [] (.slice a 0 c) := ⟨0, 0, c, a, rfl, Nat.zero_le _, fun h => absurd h (by simp), fun i t h => by simp at h⟩
theorem thunk_any {w0 w : World} {S : Nat → Prop} {t : Tr} {y : TypeId} {b : Nat} (h : Ast w0 S t y b) (hB : Below w0.heap.size w0 w) (hb6 : Bnd 6 t) (h20 : t.k ≠ 20) :
    Calls Tryf.prog 37 #[.iface y (.pointer (some ⟨b, 0, none⟩))] w fun e w' => (∃ v, e = .returned v ∧ RowIn w0 w' (thunkF t) v) ∧ Below w.heap.size w w' := by
  have none_ : ∀ {e : Ending} {w' : World}, (e = .returned (.slice none 0 0) ∧ w = w') → (∃ v, e = .returned v ∧ RowIn w0 w' [] v) ∧ Below w.heap.size w w' := fun h => ⟨⟨_, h.1, rowIn_nil _ _ _ _⟩, h.2 ▸ Below.refl _ _⟩
  cases h with
  | null b p0 p1 n0 n1 hS hb => exact (thunkChildren_LiteralNull _ _).mono fun _ _ h => none_ h
  | boolean b fl p0 p1 n0 n1 hS hb => exact (thunkChildren_LiteralBoolean _ _).mono fun _ _ h => none_ h
  | number b tx p0 p1 n0 n1 hS hb => exact (thunkChildren_LiteralNumber _ _).mono fun _ _ h => none_ h
  | str b tx op p0 p1 n0 n1 hS hb => exact (thunkChildren_LiteralString _ _).mono fun _ _ h => none_ h
  | self b p0 p1 n0 n1 hS hb => exact (thunkChildren_Self _ _).mono fun _ _ h => none_ h
  | dollar b p0 p1 n0 n1 hS hb => exact (thunkChildren_Dollar _ _).mono fun _ _ h => none_ h
  | var b tx p0 p1 n0 n1 hS hb => exact (thunkChildren_Var _ _).mono fun _ _ h => none_ h
  | unary b op p0 p1 n0 n1 hS s1 hb a1 => exact (thunkChildren_Unary _ _).mono fun _ _ h => none_ h
  | binary b op p0 p1 p2 n0 n1 n2 hS s1 s2 d12 hb a1 a2 => exact (thunkChildren_Binary _ _).mono fun _ _ h => none_ h
  | if2 b p0 p1 p2 p3 n0 n1 n2 n3 hS s1 s2 d12 hb a1 a2 => exact (thunkChildren_Conditional _ _).mono fun _ _ h => none_ h
  | if3 b p0 p1 p2 p3 n0 n1 n2 n3 hS s1 s2 s3 d12 d13 d23 hb a1 a2 a3 => exact (thunkChildren_Conditional _ _).mono fun _ _ h => none_ h
  | brace b p0 p1 n0 n1 hS s1 s2 d12 hb a1 a2 => exact (thunkChildren_ApplyBrace _ _).mono fun _ _ h => none_ h
  | index b p0 p1 p2 p3 n0 n1 n2 n3 hS s1 s2 d12 hb a1 a2 => exact (thunkChildren_Index _ _).mono fun _ _ h => none_ h
  | dot b c tx p0 p1 p2 p3 n0 n1 n2 n3 hS hc hbc s1 hb hid a1 => exact (thunkChildren_Index _ _).mono fun _ _ h => none_ h
  | error b p0 p1 n0 n1 hS s1 hb a1 => exact (thunkChildren_Error _ _).mono fun _ _ h => none_ h
  | parens b p0 p1 p2 n0 n1 n2 hS s1 hb a1 => exact (thunkChildren_Parens _ _).mono fun _ _ h => none_ h
  | apply b g cur p0 p1 p2 p3 p4 p5 n0 n1 n2 n3 n4 n5 cap tc a hS s1 hg hcap hr ss dd hb a1 aa =>
    rename_i t1 y1 b1 l ys bs ps ns
    have e : thunkF (.mk 13 ByteArray.empty 0 false (t1 :: l.map fun t => .mk 32 ByteArray.empty 0 false [t])) = l := by
      simp only [thunkF, Tr.k, Tr.subs, if_true, List.drop_succ_cons, List.drop_zero, List.map_map]
      exact (List.map_congr_left fun s _ => rfl).trans (List.map_id l)
    rw [e]
    have hl : l.length ≤ 6 := by have := hb6.len; simp [Tr.subs] at this; omega
    refine thunk_apply (fun h0 => ⟨(hg h0).1, (hB.block g (heap_lt (hg h0).2.2.2)).trans (hg h0).2.2.2⟩) hr ((hB.block b (heap_lt hb)).trans hb) hl fun i t ht => node_any (aa i t ht) ?_
    exact (hb6.sub (.mk 32 ByteArray.empty 0 false [t]) (by simp [Tr.subs]; exact .inr (List.mem_of_getElem? ht))).sub t (by simp [Tr.subs])
  | array b g cur p0 p1 p2 n0 n1 n2 cap tc a hS hg hcap hr ss dd hb aa =>
    refine thunk_array (fun h0 => ⟨(hg h0).1, (hB.block g (heap_lt (hg h0).2.2.2)).trans (hg h0).2.2.2⟩) hr ((hB.block b (heap_lt hb)).trans hb) hb6.len fun i t ht => node_any (aa i t ht) (hb6.sub t (List.mem_of_getElem? ht))
  | object b g cur p0 p1 p2 n0 n1 n2 cap tc a hS hg hcap hr ss d12 dd di hb a1 a2 => exact absurd rfl h20
theorem special_any {w0 w : World} {S : Nat → Prop} {t : Tr} {y : TypeId} {b : Nat} (h : Ast w0 S t y b) (h20 : t.k ≠ 20) :
    Calls Tryf.prog 38 #[.iface y (.pointer (some ⟨b, 0, none⟩))] w fun e w' => e = .returned (.slice none 0 0) ∧ w = w' := by
  cases h with
  | null b p0 p1 n0 n1 hS hb => exact specialChildren_LiteralNull _ _
  | boolean b fl p0 p1 n0 n1 hS hb => exact specialChildren_LiteralBoolean _ _
  | number b tx p0 p1 n0 n1 hS hb => exact specialChildren_LiteralNumber _ _
  | str b tx op p0 p1 n0 n1 hS hb => exact specialChildren_LiteralString _ _
  | self b p0 p1 n0 n1 hS hb => exact specialChildren_Self _ _
  | dollar b p0 p1 n0 n1 hS hb => exact specialChildren_Dollar _ _
  | var b tx p0 p1 n0 n1 hS hb => exact specialChildren_Var _ _
  | unary b op p0 p1 n0 n1 hS s1 hb a1 => exact specialChildren_Unary _ _
  | binary b op p0 p1 p2 n0 n1 n2 hS s1 s2 d12 hb a1 a2 => exact specialChildren_Binary _ _
  | if2 b p0 p1 p2 p3 n0 n1 n2 n3 hS s1 s2 d12 hb a1 a2 => exact specialChildren_Conditional _ _
  | if3 b p0 p1 p2 p3 n0 n1 n2 n3 hS s1 s2 s3 d12 d13 d23 hb a1 a2 a3 => exact specialChildren_Conditional _ _
  | brace b p0 p1 n0 n1 hS s1 s2 d12 hb a1 a2 => exact specialChildren_ApplyBrace _ _
  | index b p0 p1 p2 p3 n0 n1 n2 n3 hS s1 s2 d12 hb a1 a2 => exact specialChildren_Index _ _
  | dot b c tx p0 p1 p2 p3 n0 n1 n2 n3 hS hc hbc s1 hb hid a1 => exact specialChildren_Index _ _
  | error b p0 p1 n0 n1 hS s1 hb a1 => exact specialChildren_Error _ _
  | parens b p0 p1 p2 n0 n1 n2 hS s1 hb a1 => exact specialChildren_Parens _ _
  | apply b g cur p0 p1 p2 p3 p4 p5 n0 n1 n2 n3 n4 n5 cap tc a hS s1 hg hcap hr ss dd hb a1 aa => exact specialChildren_Apply _ _
  | array b g cur p0 p1 p2 n0 n1 n2 cap tc a hS hg hcap hr ss dd hb aa => exact specialChildren_Array _ _
  | object b g cur p0 p1 p2 n0 n1 n2 cap tc a hS hg hcap hr ss d12 dd di hb a1 a2 => exact absurd rfl h20
theorem kids_split {t : Tr} (ok : Ok t) (h20 : t.k ≠ 20) : directF t ++ thunkF t = t.subs.map unarg := by
  have nk : ∀ {s : Tr}, Ok s → s.k ≠ 32 := fun h => by cases h <;> simp [Tr.k]
  have un : ∀ {s : Tr}, Ok s → unarg s = s := fun h => if_neg (nk h)
  cases ok with
  | null => simp [directF, thunkF, Tr.k, Tr.subs]
  | boolean fl => simp [directF, thunkF, Tr.k, Tr.subs]
  | number tx => simp [directF, thunkF, Tr.k, Tr.subs]
  | str tx op h0 h4 => simp [directF, thunkF, Tr.k, Tr.subs]
  | self => simp [directF, thunkF, Tr.k, Tr.subs]
  | dollar => simp [directF, thunkF, Tr.k, Tr.subs]
  | var tx => simp [directF, thunkF, Tr.k, Tr.subs]
  | unary op t1 h0 h4 a1 => simp [directF, thunkF, Tr.k, Tr.subs, un a1]
  | binary op t1 t2 h0 h4 a1 a2 => simp [directF, thunkF, Tr.k, Tr.subs, un a1, un a2]
  | if2 t1 t2 a1 a2 => simp [directF, thunkF, Tr.k, Tr.subs, un a1, un a2]
  | if3 t1 t2 t3 a1 a2 a3 => simp [directF, thunkF, Tr.k, Tr.subs, un a1, un a2, un a3]
  | brace t1 t2 a1 a2 => simp [directF, thunkF, Tr.k, Tr.subs, un a1, un a2]
  | index t1 t2 a1 a2 => simp [directF, thunkF, Tr.k, Tr.subs, un a1, un a2]
  | dot tx t1 a1 => simp [directF, thunkF, Tr.k, Tr.subs, un a1]
  | error t1 a1 => simp [directF, thunkF, Tr.k, Tr.subs, un a1]
  | parens t1 a1 => simp [directF, thunkF, Tr.k, Tr.subs, un a1]
  | apply t1 l hl a1 aa => simp [directF, thunkF, Tr.k, Tr.subs, un a1]
  | array l hl aa =>
    have e : l.map unarg = l := by
      exact (List.map_congr_left fun s hs => un (aa s hs)).trans (List.map_id l)
    simp [directF, thunkF, Tr.k, Tr.subs, e]
  | object l hl hf aa => exact absurd rfl h20

/-! ### Lists that are put together -/
theorem run_append_zero {P : Program} {w : World} {base : Nat} {t ty e : TypeId} {i : TypeInfo} {size : Nat} (ht : P.underlying t = some (.slice e)) (hi : P.info? e = some i) {v : Value} {n : Nat} {xs : List Value} (hown : w.ownsRow base e size v n xs) (A : Option Addr) (c : Nat) :
    (Builtin.append_ #[t, t] ty #[v, .slice A 0 c]).run P w = .ok v w := by
  rcases A with _ | ad
  all_goals
    rcases hown.2 with ⟨rfl, rfl⟩ | ⟨g, cap, cur, rfl, _, _, hnc, _⟩
    · simp [Builtin.append_, run_underlying ht, sizeOf, typeInfo, hi, Builtin.lenOf, Builtin.firstCells, loadCells, loadCellsFrom]
    · simp [Builtin.append_, run_underlying ht, sizeOf, typeInfo, hi, Builtin.lenOf, Builtin.firstCells, loadCells, loadCellsFrom, hnc, storeCells]
theorem wpList_append_zero {P : Program} {w : World} {ops : Array Oper} {rest : List Oper} {o : Oper} {a : Act} {Q : Exit → Act → World → Prop} (hgd : o.guard = none) (s x : Operand) (t : TypeId)
    (ho : o.op = .call { callee := .builtin .append, args := #[s, x], argTypes := #[t, t] })
    (base : Nat) (e : TypeId) (i : TypeInfo) (size : Nat) (ht : P.underlying t = some (.slice e)) (hi : P.info? e = some i)
    (v : Value) (n : Nat) (xs : List Value) (hs : a.eval s = v) (hown : w.ownsRow base e size v n xs) (A : Option Addr) (c : Nat) (hx : a.eval x = .slice A 0 c)
    (h : wpList P ops Q rest (a.put o.dst v) w) : wpList P ops Q (o :: rest) a w :=
  wpList_plain hgd fun K hK => by
    unfold Oper.wp execOp
    simp only [ho, resolve, invoke, builtin, Sem.run_bind, Sem.run_pure, Result.andThen_ok, List.map_toArray, List.map_cons, List.map_nil, hs, hx, run_append_zero ht hi hown]
    exact hK _ _ h
/-- A list of nodes in memory of one's own, whose trees lay in a world ahead of it. -/
def RowOwn (w0 : World) (base : Nat) (w : World) (l : List Tr) (v : Value) : Prop :=
  ∃ xs : List Value, w.ownsRow base 40 1 v l.length xs ∧ ∀ (i : Nat) (t : Tr), l[i]? = some t → ∃ y c, xs[i]? = some (Value.iface y (.pointer (some ⟨c, 0, none⟩))) ∧ NodeAt w0 t y c
theorem RowOwn.nil (w0 : World) (base : Nat) (w : World) : RowOwn w0 base w [] (.slice none 0 0) := ⟨[], ⟨rfl, .inl ⟨rfl, rfl⟩⟩, fun i t h => by simp at h⟩
theorem RowOwn.bel {w0 w w' : World} {base : Nat} {l : List Tr} {v : Value} (h : RowOwn w0 base w l v) (hb : Below w.heap.size w w') : RowOwn w0 base w' l v := by
  obtain ⟨xs, ho, hx⟩ := h
  exact ⟨xs, ownsRow_below ho hb, hx⟩
theorem RowOwn.form {w0 w : World} {base : Nat} {l : List Tr} {v : Value} (h : RowOwn w0 base w l v) : ∃ a c, v = .slice a l.length c := by
  obtain ⟨xs, ho, _⟩ := h
  exact owns_form ho
theorem RowOwn.row {w0 w : World} {base : Nat} {l : List Tr} {v : Value} (h : RowOwn w0 base w l v) (hb : Below w0.heap.size w0 w) : NodeRow w l v := by
  obtain ⟨xs, ho, hx⟩ := h
  rcases ho.2 with ⟨rfl, h0⟩ | ⟨g, cap, cur, rfl, hg, hh, hcap, _, hsz, htk⟩
  · obtain rfl := List.eq_nil_of_length_eq_zero h0
    exact nodeRow_nil _ _ _
  · refine ⟨g, 0, cap, _, rfl, hcap, fun _ => rfl, fun i t ht => ?_⟩
    have hi := (List.getElem?_eq_some_iff.1 ht).1
    obtain ⟨y, c, hv, hn⟩ := hx i t ht
    refine ⟨y, c, ?_, hn.bel hb⟩
    rw [Nat.zero_add]
    refine cell_of hh ?_
    rw [← htk] at hv
    rw [List.getElem?_take_of_lt (by omega)] at hv
    simpa using hv
theorem RowIn.vals {w0 w : World} {l : List Tr} {v : Value} (h : RowIn w0 w l v) (h0 : 0 < l.length) :
    ∃ (b off cap : Nat) (news : List Value), v = .slice (some ⟨b, off, none⟩) l.length cap ∧ news.length = l.length ∧ (∀ j u, news[j]? = some u → w.cell? ((⟨b, off, none⟩ : Addr).add j) = some u) ∧ (∀ u ∈ news, u.oneCell' = true) ∧ ∀ (i : Nat) (t : Tr), l[i]? = some t → ∃ y c, news[i]? = some (Value.iface y (.pointer (some ⟨c, 0, none⟩))) ∧ NodeAt w0 t y c := by
  obtain ⟨b, off, cap, a, rfl, hcap, ha, hc⟩ := h
  obtain rfl := ha h0
  refine ⟨b, off, cap, (List.range l.length).map fun i => (w.cell? ⟨b, off + i, none⟩).getD .nilIface, rfl, by simp, fun j u hu => ?_, fun u hu => ?_, fun i t ht => ?_⟩
  · have hj : j < l.length := by
      have := (List.getElem?_eq_some_iff.1 hu).1
      simpa using this
    obtain ⟨y, c, e, _⟩ := hc j _ (List.getElem?_eq_getElem hj)
    rw [List.getElem?_map, List.getElem?_range hj] at hu
    rw [Addr.add_mid]
    simp [e] at hu
    rw [e, hu]
  · obtain ⟨j, hj, rfl⟩ := List.mem_map.1 hu
    obtain ⟨y, c, e, _⟩ := hc j _ (List.getElem?_eq_getElem (List.mem_range.1 hj))
    rw [e]
    simp [Value.oneCell']
  · have hi := (List.getElem?_eq_some_iff.1 ht).1
    obtain ⟨y, c, e, hn⟩ := hc i t ht
    exact ⟨y, c, by rw [List.getElem?_map, List.getElem?_range hi]; simp [e], hn⟩
theorem row_append {w0 w : World} {base : Nat} {l m : List Tr} {v v2 : Value} (hown : RowOwn w0 base w l v) (hin : RowIn w0 w m v2) (hlen : l.length + m.length ≤ 14) (hbase : base ≤ w.heap.size)
    {ops : Array Oper} {rest : List Oper} {o : Oper} {a : Act} {Q : Exit → Act → World → Prop} (hgd : o.guard = none) (s x : Operand)
    (ho : o.op = .call { callee := .builtin .append, args := #[s, x], argTypes := #[44, 44] }) (hs : a.eval s = v) (hx : a.eval x = v2)
    (h : ∀ v' w', RowOwn w0 base w' (l ++ m) v' → Below base w w' → wpList Tryf.prog ops Q rest (a.put o.dst v') w') : wpList Tryf.prog ops Q (o :: rest) a w := by
  obtain ⟨i0, hi0, hz0, hs0, hb0⟩ := info_parts infoND
  obtain ⟨xs, ho', hxs⟩ := hown
  by_cases h0 : 0 < m.length
  · obtain ⟨b, off, cap, news, rfl, hnl, hnw, h1, hn⟩ := hin.vals h0
    refine wpList_append_lies _ hgd s x 44 ho base 40 i0 .nilIface 1 16 Tryf.underlying44 hi0 hz0 hs0 hb0 rfl (by omega) v l.length xs hs ho' ⟨b, off, none⟩ m.length cap news hx (by omega) hnw h1 h0 (by unfold maxLen; omega) (by omega) hbase _ rfl ?_
    intro g cap1 w' hown' hgrow _ _
    refine h _ _ ⟨xs ++ news, by rw [List.length_append]; exact hown', fun i t ht => ?_⟩ (Below.grown (Below.refl _ _) hgrow hbase (fun k hk => (ho'.lt k hk).1))
    have hxl : xs.length = l.length := by have := ho'.1; omega
    by_cases hi : i < l.length
    · rw [List.getElem?_append_left hi] at ht
      obtain ⟨y, c, e, hn⟩ := hxs i t ht
      exact ⟨y, c, by rw [List.getElem?_append_left (by omega)]; exact e, hn⟩
    · rw [List.getElem?_append_right (by omega)] at ht
      obtain ⟨y, c, e, hn⟩ := hn (i - l.length) t ht
      exact ⟨y, c, by rw [List.getElem?_append_right (by omega), hxl]; exact e, hn⟩
  · obtain rfl := List.eq_nil_of_length_eq_zero (by omega : m.length = 0)
    obtain ⟨b, off, cap, a', rfl, _⟩ := hin
    refine wpList_append_zero hgd s x 44 ho base 40 i0 1 Tryf.underlying44 hi0 v l.length xs hs ho' a' cap hx ?_
    exact h _ _ ⟨xs, by simpa using ho', by simpa using hxs⟩ (Below.refl _ _)
theorem directF_len {t : Tr} (h : Bnd 6 t) : (directF t).length ≤ 6 := Nat.le_trans (directF_le t) h.len
theorem thunkF_len {t : Tr} (h : Bnd 6 t) : (thunkF t).length ≤ 6 := by
  have := h.len
  unfold thunkF
  split
  · simp; omega
  · split <;> simp [this]
set_option maxRecDepth 100000 in
set_option maxHeartbeats 4000000 in
theorem children_any {w : World} {S : Nat → Prop} {t : Tr} {y : TypeId} {b : Nat} (h : Ast w S t y b) (hb6 : Bnd 6 t) (h20 : t.k ≠ 20) (h16 : t.k ≠ 16) :
    Calls Tryf.prog 19 #[.iface y (.pointer (some ⟨b, 0, none⟩))] w fun e w' => RowBack (directF t ++ thunkF t) e w' ∧ Below w.heap.size w w' := by
  have HA := Lib.hid h; have H6 := Lib.hid hb6; have H20 := Lib.hid h20; have H16 := Lib.hid h16
  clear h hb6 h20 h16
  go_enter Tryf.func19, Tryf.ntmps19
  go_wp2_with fail
  refine (direct_any HA.out H6.out H20.out H16.out).mono ?_
  rintro e w1 ⟨⟨v1, rfl, hr1⟩, hb1⟩
  have HR1 := Lib.hid (show RowIn w1 w1 (directF t) v1 from hr1)
  have HA1 := Lib.hid (HA.out.bel hb1)
  have HB1 := Lib.hid hb1
  have HO1 := Lib.hid (RowOwn.nil w1 w1.heap.size w1)
  have HL := Lib.hid (And.intro (directF_len H6.out) (thunkF_len H6.out))
  clear hr1 hb1
  go_wp2_with (at_builtin; refine row_append HO1.out HR1.out (by have := HL.out.1; simp; omega) (Nat.le_refl _) rfl _ _ rfl rfl rfl ?_; intro v2 w2 hown2 hb2)
  have HO2 := Lib.hid (show RowOwn w1 w1.heap.size w2 (directF t) v2 by simpa using hown2)
  have HB2 := Lib.hid hb2
  clear hown2 hb2
  go_wp2_with fail
  refine (thunk_any HA1.out HB2.out H6.out H20.out).mono ?_
  rintro e w3 ⟨⟨v3, rfl, hr3⟩, hb3⟩
  have HR3 := Lib.hid hr3
  have HO3 := Lib.hid (HO2.out.bel hb3)
  have HB3 := Lib.hid (HB2.out.trans (hb3.mono HB2.out.size))
  clear hr3 hb3
  go_wp2_with (at_builtin; refine row_append HO3.out HR3.out (by have := HL.out; omega) HB3.out.size rfl _ _ rfl rfl rfl ?_; intro v4 w4 hown4 hb4)
  have HO4 := Lib.hid hown4
  have HB4 := Lib.hid (HB3.out.trans hb4)
  clear hown4 hb4
  go_wp2_with fail
  refine (special_any HA1.out H20.out).mono ?_
  rintro e w5 ⟨rfl, rfl⟩
  go_wp2_with (at_builtin; refine row_append HO4.out (rowIn_nil _ _ _ _) (by have := HL.out; simp; omega) HB4.out.size rfl _ _ rfl rfl rfl ?_; intro v5 w5 hown5 hb5)
  have HO5 := Lib.hid (show RowOwn w1 w1.heap.size w5 (directF t ++ thunkF t) v5 by simpa using hown5)
  have HB5 := Lib.hid (HB4.out.trans hb5)
  clear hown5 hb5
  go_wp2
  go_ret
  exact ⟨⟨_, rfl, HO5.out.row HB5.out⟩, HB1.out.trans (HB5.out.mono HB1.out.size)⟩
end Go.Proofs.YthppionkcfkafaaFmt
