/-
  (*passes.EnforceCommentStyle).FodderElement, impl.StyleComment, spec.Styled: what they make of a piece. Conditions: the comment's length.
-/
import Derived.Test.YthlnciihabhmaaaLimit
import Derived.Test.YthlnciihabhmaaaElemOwn
import Derived.Lib.Strings
namespace Go.Proofs.Ythlnciihabhmaaa
open Go.ChangeShapes Go.WideShapes Go.ChangeAt Go.RowKit Go.Joins

/-- A byte of a text. -/
def At (s : ByteArray) (i : Nat) (c : Int) : Prop := ∃ h : i < s.size, ((s[i].toNat : Nat) : Int) = c
theorem at_yes {s : ByteArray} {i : Nat} {c : Int} (h : i < s.size) (e : (((s[i].toNat : Nat) : Int) == c) = true) : At s i c := ⟨h, by simpa using e⟩
theorem at_no {s : ByteArray} {i : Nat} {c : Int} (h : i < s.size) (e : (((s[i].toNat : Nat) : Int) == c) = false) : ¬ At s i c := fun ⟨_, k⟩ => by
  rw [k] at e
  simp at e
/-- What a comment of one line becomes. -/
def Sty (m : Int) (s s' : ByteArray) : Prop :=
  (m = 0 ∧ At s 0 47 ∧ s' = ⟨#[35]⟩ ++ s.extract 2 s.size) ∨ (m = 1 ∧ At s 0 35 ∧ ¬ At s 1 33 ∧ s' = ⟨#[47, 47]⟩ ++ s.extract 1 s.size) ∨ (¬ (m = 0 ∧ At s 0 47) ∧ ¬ (m = 1 ∧ At s 0 35 ∧ ¬ At s 1 33) ∧ s' = s)
theorem Sty.det {m : Int} {s a b : ByteArray} (h : Sty m s a) (k : Sty m s b) : a = b := by
  rcases h with ⟨h1, h2, rfl⟩ | ⟨h1, h2, h3, rfl⟩ | ⟨h1, h2, rfl⟩ <;> rcases k with ⟨k1, k2, rfl⟩ | ⟨k1, k2, k3, rfl⟩ | ⟨k1, k2, rfl⟩
  · rfl
  · omega
  · exact absurd ⟨h1, h2⟩ k1
  · omega
  · rfl
  · exact absurd ⟨h1, h2, h3⟩ k2
  · exact absurd ⟨k1, k2⟩ h1
  · exact absurd ⟨k1, k2, k3⟩ h2
  · rfl
/-- A style's box. -/
abbrev Opt (w : World) (B : Nat) (m : Int) : Prop := w.heap[B]? = some (.cells #[.int .i64 0, .int .i64 0, .int .i64 0, .int .i64 m, .bool false, .bool false, .bool false, .bool false, .bool false, .bool false, .bool false, .bool false, .bool false] 65)
theorem styleE_within {w : World} {B E : Nat} {u : Value} {bl ind : Int} (hE : Box4 w E 58 u (.int .i64 1) (.int .i64 bl) (.int .i64 ind)) :
    Calls Try.prog 33 #[.pointer (some ⟨B, 0, none⟩), .iface 63 (.pointer (some ⟨B, 0, none⟩)), .pointer (some ⟨E, 0, none⟩), .nilIface] w fun e w' => e = .returned (.tuple #[]) ∧ w = w' := by
  obtain ⟨x0, x1, x2, x3, xf⟩ := hE.cells
  clear hE
  go_enter Try.func33, Try.ntmps33
  go_wp2
  go_end0
  exact ⟨rfl, rfl⟩
theorem styleE_other {w : World} {B E n cap : Nat} {a : Option Addr} {m k bl ind : Int} (hE : Box4 w E 58 (.slice a n cap) (.int .i64 k) (.int .i64 bl) (.int .i64 ind)) (hB : Opt w B m) (hk : k ≠ 1) (hn : n ≠ 1) :
    Calls Try.prog 33 #[.pointer (some ⟨B, 0, none⟩), .iface 63 (.pointer (some ⟨B, 0, none⟩)), .pointer (some ⟨E, 0, none⟩), .nilIface] w fun e w' => e = .returned (.tuple #[]) ∧ Only (fun x => x = B) w w' := by
  obtain ⟨x0, x1, x2, x3, xf⟩ := hE.cells
  have y12 := cell_of_row _ _ 12 _ _ _ hB
  have yf := fun j => unfrozen_of_block hB j
  simp at y12
  clear hE hB
  have hk2 : (k == 1) = false := by simp [hk]
  have hk3 : (k != 1) = true := by simp [hk]
  have hn2 : ((n : Int) == 1) = false := by simp; omega
  go_enter Try.func33, Try.ntmps33
  go_wp2
  go_end0
  exact ⟨rfl, (Only.refl (fun x => x = B) w).set (p := ⟨B, 12, none⟩) (.inr rfl) _⟩
theorem styleE_one {w : World} {B E b off cap : Nat} {s : ByteArray} {m k bl ind : Int} (hE : Box4 w E 58 (.slice (some ⟨b, off, none⟩) 1 cap) (.int .i64 k) (.int .i64 bl) (.int .i64 ind)) (hB : Opt w B m)
    (hs : w.cell? ⟨b, off, none⟩ = some (.string s)) (hf : w.frozen? ⟨b, off, none⟩ = false) (hk : k ≠ 1) (h2 : 2 ≤ s.size) (hbB : b ≠ B) (hz : (s.size : Int) ≤ 400) :
    Calls Try.prog 33 #[.pointer (some ⟨B, 0, none⟩), .iface 63 (.pointer (some ⟨B, 0, none⟩)), .pointer (some ⟨E, 0, none⟩), .nilIface] w fun e w' => e = .returned (.tuple #[]) ∧ Only (fun x => x = B ∨ x = b) w w' ∧ ∃ s', w'.cell? ⟨b, off, none⟩ = some (.string s') ∧ Sty m s s' := by
  obtain ⟨x0, x1, x2, x3, xf⟩ := hE.cells
  have y3 := cell_of_row _ _ 3 _ _ _ hB
  have y12 := cell_of_row _ _ 12 _ _ _ hB
  have yf := fun j => unfrozen_of_block hB j
  simp at y3 y12
  clear hE hB
  have hk2 : (k == 1) = false := by simp [hk]
  have hk3 : (k != 1) = true := by simp [hk]
  have h1 : 1 < s.size := by omega
  go_enter Try.func33, Try.ntmps33
  go_wp2
  · rename_i e1 e2 e3
    go_end0
    exact ⟨rfl, ((Only.refl (fun x => x = B ∨ x = b) w).set (p := ⟨b, off, none⟩) (.inr (.inr rfl)) _).set (p := ⟨B, 12, none⟩) (.inr (.inl rfl)) _, _, by go_simp, .inl ⟨e1, at_yes e2 e3, rfl⟩⟩
  · rename_i e1 e2 e3
    go_end0
    exact ⟨rfl, (Only.refl (fun x => x = B ∨ x = b) w).set (p := ⟨B, 12, none⟩) (.inr (.inl rfl)) _, _, by go_simp, .inr (.inr ⟨fun h => at_no e2 e3 h.2, fun h => by omega, rfl⟩)⟩
  · rename_i e0 e1 e2 e3 e4 e5
    refine bodyPost_ret (results_none rfl _ _ _) rfl ?_
    exact ⟨rfl, Only.refl _ _, s, hs, .inr (.inr ⟨fun h => by omega, fun h => h.2.2 (at_yes h1 e5), rfl⟩)⟩
  · rename_i e0 e1 e2 e3 e4 e5
    go_end0
    exact ⟨rfl, ((Only.refl (fun x => x = B ∨ x = b) w).set (p := ⟨b, off, none⟩) (.inr (.inr rfl)) _).set (p := ⟨B, 12, none⟩) (.inr (.inl rfl)) _, _, by go_simp, .inr (.inl ⟨e1, at_yes e2 e3, at_no h1 e5, rfl⟩)⟩
  · rename_i e0 e1 e2 e3
    go_end0
    exact ⟨rfl, (Only.refl (fun x => x = B ∨ x = b) w).set (p := ⟨B, 12, none⟩) (.inr (.inl rfl)) _, _, by go_simp, .inr (.inr ⟨fun h => by omega, fun h => at_no e2 e3 h.2.1, rfl⟩)⟩
  · go_end0
    exact ⟨rfl, (Only.refl (fun x => x = B ∨ x = b) w).set (p := ⟨B, 12, none⟩) (.inr (.inl rfl)) _, _, by go_simp, .inr (.inr ⟨fun h => by omega, fun h => by omega, rfl⟩)⟩

/-! ### spec.begins, spec.Styled -/
/-- A text begins with some bytes. -/
def beg (s : ByteArray) (l : List UInt8) : Bool := Lib.hasPrefix s.data.toList l
theorem u8_eq (x : UInt8) (n : Nat) (hn : n < 256) : ((x.toNat : Nat) : Int) = (n : Int) ↔ x = UInt8.ofNat n := by
  constructor
  · intro h
    have h' : x.toNat = n := by omega
    exact UInt8.toNat_inj.1 (by rw [h']; simp; omega)
  · rintro rfl
    simp
    omega
theorem beg_one (s : ByteArray) (c : Nat) (hc : c < 256) : beg s [UInt8.ofNat c] = true ↔ At s 0 c := by
  obtain ⟨⟨l⟩⟩ := s
  cases l with
  | nil => exact ⟨fun h => by simp [beg, Lib.hasPrefix] at h, fun ⟨h, _⟩ => absurd h (Nat.not_lt_zero _)⟩
  | cons x l =>
    have h0 : (0 : Nat) < (ByteArray.mk (x :: l).toArray).size := by simp [ByteArray.size]
    have e : (ByteArray.mk (x :: l).toArray)[0] = x := rfl
    constructor
    · intro h
      refine ⟨h0, ?_⟩
      rw [e]
      simp [beg, Lib.hasPrefix] at h
      exact (u8_eq x c hc).2 h.symm
    · rintro ⟨_, h⟩
      rw [e] at h
      simp [beg, Lib.hasPrefix, (u8_eq x c hc).1 h]
theorem beg_two (s : ByteArray) (c d : Nat) (hc : c < 256) (hd : d < 256) : beg s [UInt8.ofNat c, UInt8.ofNat d] = true ↔ At s 0 c ∧ At s 1 d := by
  obtain ⟨⟨l⟩⟩ := s
  rcases l with _ | ⟨x, _ | ⟨y, l⟩⟩
  · exact ⟨fun h => by simp [beg, Lib.hasPrefix] at h, fun ⟨⟨h, _⟩, _⟩ => absurd h (Nat.not_lt_zero _)⟩
  · exact ⟨fun h => by simp [beg, Lib.hasPrefix] at h, fun ⟨_, ⟨h, _⟩⟩ => absurd h (Nat.lt_irrefl 1)⟩
  · have h0 : (0 : Nat) < (ByteArray.mk (x :: y :: l).toArray).size := by simp [ByteArray.size]
    have h1 : (1 : Nat) < (ByteArray.mk (x :: y :: l).toArray).size := by simp [ByteArray.size]
    have e : (ByteArray.mk (x :: y :: l).toArray)[0] = x := rfl
    have e1 : (ByteArray.mk (x :: y :: l).toArray)[1] = y := rfl
    constructor
    · intro h
      simp [beg, Lib.hasPrefix] at h
      refine ⟨⟨h0, ?_⟩, ⟨h1, ?_⟩⟩
      · rw [e]
        exact (u8_eq x c hc).2 h.1.symm
      · rw [e1]
        exact (u8_eq y d hd).2 h.2.symm
    · rintro ⟨⟨_, h⟩, ⟨_, k⟩⟩
      rw [e] at h
      rw [e1] at k
      simp [beg, Lib.hasPrefix, (u8_eq x c hc).1 h, (u8_eq y d hd).1 k]
theorem begins_is {s t : ByteArray} {w : World} {r : Bool} (hz : (s.size : Int) ≤ 400) (ht : (t.size : Int) ≤ 400) (hr : beg s t.data.toList = r) :
    Calls Try.prog 34 #[.string s, .string t] w fun e w' => e = .returned (.bool r) ∧ w = w' := by
  have HR := Lib.hid (hr.symm.trans (Lib.hasPrefix_raw s t).symm); clear hr
  by_cases h : t.size ≤ s.size
  · have h' : (t.size : Int) ≤ (s.size : Int) := by omega
    have HR' := Lib.hid (show r = ((s.extract 0 t.size).toList == t.toList) by rw [HR.out]; simp [h])
    go_enter Try.func34, Try.ntmps34
    go_wp2
    go_ret
    exact ⟨by rw [HR'.out]; rfl, rfl⟩
  · have h' : ¬ (t.size : Int) ≤ (s.size : Int) := by omega
    have HR' := Lib.hid (show r = false by rw [HR.out]; simp [h])
    go_enter Try.func34, Try.ntmps34
    go_wp2
    go_ret
    exact ⟨by rw [HR'.out]; rfl, rfl⟩

/-- What a comment becomes. -/
def StyL (m k : Int) (ss ss' : List ByteArray) : Prop := ((k = 1 ∨ ss.length ≠ 1) ∧ ss' = ss) ∨ (k ≠ 1 ∧ ∃ s s', ss = [s] ∧ ss' = [s'] ∧ Sty m s s')
theorem StyL.det {m k : Int} {ss a b : List ByteArray} (h : StyL m k ss a) (g : StyL m k ss b) : a = b := by
  rcases h with ⟨h1, rfl⟩ | ⟨h1, s, s', rfl, rfl, h2⟩ <;> rcases g with ⟨g1, rfl⟩ | ⟨g1, t, t', e, rfl, g2⟩
  · rfl
  · subst e
    simp at h1
    exact absurd h1 g1
  · simp at g1
    exact absurd g1 h1
  · injection e with e _
    subst e
    rw [h2.det g2]
theorem StyL.len {m k : Int} {ss a : List ByteArray} (h : StyL m k ss a) : a.length = ss.length := by
  rcases h with ⟨_, rfl⟩ | ⟨_, s, s', rfl, rfl, _⟩ <;> rfl
theorem styleE {w : World} {B E : Nat} {u : Value} {ss : List ByteArray} {m k bl ind : Int} (hE : Box4 w E 58 u (.int .i64 k) (.int .i64 bl) (.int .i64 ind)) (hB : Opt w B m) (hu : Comm w u ss) (hBE : B ≠ E)
    (hf : 0 < ss.length → ∀ b, u.ownBlock = some b → (∀ j, w.frozen? ⟨b, j, none⟩ = false) ∧ b ≠ B ∧ b ≠ E) (hp : ∀ s ∈ ss, 2 ≤ s.size ∧ s.size ≤ 400) :
    Calls Try.prog 33 #[.pointer (some ⟨B, 0, none⟩), .iface 63 (.pointer (some ⟨B, 0, none⟩)), .pointer (some ⟨E, 0, none⟩), .nilIface] w fun e w' => e = .returned (.tuple #[]) ∧ ∃ ss', Comm w' u ss' ∧ StyL m k ss ss' ∧ Box4 w' E 58 u (.int .i64 k) (.int .i64 bl) (.int .i64 ind) ∧ Only (fun x => x = B ∨ (0 < ss.length ∧ u.ownBlock = some x)) w w' := by
  by_cases hk : k = 1
  · subst hk
    refine (styleE_within (B := B) hE).mono ?_
    rintro e w' ⟨rfl, rfl⟩
    exact ⟨rfl, ss, hu, .inl ⟨.inl rfl, rfl⟩, hE, .refl _ _⟩
  by_cases hn : ss.length = 1
  · rcases hu with ⟨rfl, _⟩ | ⟨h0, b, off, cap, rfl, hlt, hT⟩
    · simp at hn
    obtain ⟨s, rfl⟩ : ∃ s, ss = [s] := by
      match ss, hn with
      | [s], _ => exact ⟨s, rfl⟩
    obtain ⟨f1, f2, f3⟩ := hf h0 b rfl
    obtain ⟨p1, p2⟩ := hp s (by simp)
    refine (styleE_one (b := b) (off := off) (cap := cap) (s := s) hE hB (hT 0 s rfl) (f1 off) hk p1 f2 (by omega)).mono ?_
    rintro e w' ⟨rfl, ho, s', hs', hst⟩
    refine ⟨rfl, [s'], .inr ⟨by simp, b, off, cap, rfl, Nat.lt_of_lt_of_le hlt ho.size, fun i t hi => ?_⟩, .inr ⟨hk, s, s', rfl, rfl, hst⟩, (ho.block E hE.lt (fun h => h.elim (fun h => hBE h.symm) (fun h => f3 h.symm))).trans hE, ho.mono fun x hx => hx.imp id (fun h => ⟨by simp, by rw [h]; rfl⟩)⟩
    match i, hi with
    | 0, hi =>
      obtain rfl : s' = t := by simpa using hi
      exact hs'
  · obtain ⟨a, cap, rfl⟩ := hu.form
    refine (styleE_other (m := m) hE hB hk hn).mono ?_
    rintro e w' ⟨rfl, ho⟩
    exact ⟨rfl, ss, hu.only ho (fun b hb h0 e => (hf h0 b hb).2.1 e), .inl ⟨.inr hn, rfl⟩, (ho.block E hE.lt (fun h => hBE h.symm)).trans hE, ho.mono fun x hx => .inl hx⟩
theorem element_fz {w : World} {v : Value} {ss : List ByteArray} (k bl ind : Int) (h : Comm w v ss) (hm : ss.length ≤ 1000000) :
    Calls Try.prog 30 #[.agg #[.int .i64 k, .int .i64 bl, .int .i64 ind, v]] w fun e w' => (∃ v', e = .returned (.agg #[v', .int .i64 k, .int .i64 bl, .int .i64 ind]) ∧ Comm w' v' ss ∧ (0 < ss.length → ∃ b, v'.ownBlock = some b ∧ w.heap.size ≤ b ∧ b < w'.heap.size ∧ ∀ j, w'.frozen? ⟨b, j, none⟩ = false)) ∧ Below w.heap.size w w' := by
  rcases h with ⟨rfl, a, cap, rfl⟩ | ⟨h0, b, off, cap, rfl, hlt, hc⟩
  · rcases a with _ | ad
    · exact (element_nil k bl ind cap w).mono fun e w' ⟨⟨a', c', he⟩, hb⟩ => ⟨⟨_, he, .inl ⟨rfl, _, _, rfl⟩, fun h => by simp at h⟩, hb⟩
    · exact (element_emp k bl ind ad cap w).mono fun e w' ⟨⟨a', c', he⟩, hb⟩ => ⟨⟨_, he, .inl ⟨rfl, _, _, rfl⟩, fun h => by simp at h⟩, hb⟩
  · exact (element_own k bl ind ss b off cap w h0 hm hlt hc).mono fun e w' ⟨⟨g, c', he, h1, h2, h3, h4⟩, hb⟩ => ⟨⟨_, he, .inr ⟨h0, g, 0, c', rfl, h2, h3⟩, fun _ => ⟨g, rfl, h1, h2, h4⟩⟩, hb⟩
theorem implStyle {w : World} {v : Value} {ss : List ByteArray} {m k bl ind : Int} (h : Comm w v ss) (hn : ss.length ≤ 1000000) (hp : ∀ s ∈ ss, 2 ≤ s.size ∧ s.size ≤ 400) :
    Calls Try.prog 19 #[.int .i64 m, .agg #[.int .i64 k, .int .i64 bl, .int .i64 ind, v]] w fun e w' => (∃ v' ss', e = .returned (.agg #[.int .i64 k, .int .i64 bl, .int .i64 ind, v']) ∧ Comm w' v' ss' ∧ StyL m k ss ss') ∧ Below w.heap.size w w' := by
  obtain ⟨a, cap, rfl⟩ := h.form
  have hB3 : Below w.heap.size w (((w.alloc (.cells #[.int .i64 k, .int .i64 bl, .int .i64 ind, .slice a ss.length cap] 29)).alloc (.cells #[.int .i64 0, .int .i64 0, .int .i64 0, .slice none 0 0] 29)).alloc (.cells #[.int .i64 0, .int .i64 0, .int .i64 0, .int .i64 m, .bool false, .bool false, .bool false, .bool false, .bool false, .bool false, .bool false, .bool false, .bool false] 65)) := below_alloc3 _ _ _ _
  have HC := Lib.hid (h.below hB3); clear h
  have HPP := Lib.hid hp; clear hp
  have S0 := Lib.hid (stayRow_alloc (stayRow_base (w.alloc (.cells #[.int .i64 k, .int .i64 bl, .int .i64 ind, .slice a ss.length cap] 29)) #[.int .i64 0, .int .i64 0, .int .i64 0, .slice none 0 0] 29 (w.heap.size + 1) 4 (by simp) rfl) (by decide) (.cells #[.int .i64 0, .int .i64 0, .int .i64 0, .int .i64 m, .bool false, .bool false, .bool false, .bool false, .bool false, .bool false, .bool false, .bool false, .bool false] 65))
  have HM := Lib.hid (show ((((w.alloc (.cells #[.int .i64 k, .int .i64 bl, .int .i64 ind, .slice a ss.length cap] 29)).alloc (.cells #[.int .i64 0, .int .i64 0, .int .i64 0, .slice none 0 0] 29)).alloc (.cells #[.int .i64 0, .int .i64 0, .int .i64 0, .int .i64 m, .bool false, .bool false, .bool false, .bool false, .bool false, .bool false, .bool false, .bool false, .bool false] 65))).heap[w.heap.size + 1 + 1]? = some (.cells #[.int .i64 0, .int .i64 0, .int .i64 0, .int .i64 m, .bool false, .bool false, .bool false, .bool false, .bool false, .bool false, .bool false, .bool false, .bool false] 65) by simpa using heap_alloc_new ((w.alloc (.cells #[.int .i64 k, .int .i64 bl, .int .i64 ind, .slice a ss.length cap] 29)).alloc (.cells #[.int .i64 0, .int .i64 0, .int .i64 0, .slice none 0 0] 29)) (.cells #[.int .i64 0, .int .i64 0, .int .i64 0, .int .i64 m, .bool false, .bool false, .bool false, .bool false, .bool false, .bool false, .bool false, .bool false, .bool false] 65))
  go_enter Try.func19, Try.ntmps19
  go_wp2_with fail
  refine (element_fz k bl ind HC.out hn).mono ?_
  rintro e w4 ⟨⟨u4, rfl, hu4, hf4⟩, hb4⟩
  obtain ⟨ua4, ucap4, rfl⟩ := hu4.form
  have S4 := Lib.hid (stayRow_step S0.out hb4 (by decide))
  have hz4 := hb4.size
  have hba := below_alloc1 w4 (.cells #[.slice ua4 ss.length ucap4, .int .i64 k, .int .i64 bl, .int .i64 ind] 58)
  have M4 := Lib.hid (((hb4.trans (hba.mono hz4)).block (w.heap.size + 1 + 1) (by simp)).trans HM.out)
  have U4 := Lib.hid (hu4.below hba)
  have F4 := Lib.hid (fun h0 => by
    obtain ⟨b, hb, hle, hlt, hfz⟩ := hf4 h0
    exact ⟨b, hb, hle, hlt, fun j => ((bcell hba).2 b j hlt).trans (hfz j)⟩ : 0 < ss.length → ∃ b, (Value.slice ua4 ss.length ucap4).ownBlock = some b ∧ ((((w.alloc (.cells #[.int .i64 k, .int .i64 bl, .int .i64 ind, .slice a ss.length cap] 29)).alloc (.cells #[.int .i64 0, .int .i64 0, .int .i64 0, .slice none 0 0] 29)).alloc (.cells #[.int .i64 0, .int .i64 0, .int .i64 0, .int .i64 m, .bool false, .bool false, .bool false, .bool false, .bool false, .bool false, .bool false, .bool false, .bool false] 65))).heap.size ≤ b ∧ b < w4.heap.size ∧ ∀ j, (w4.alloc (.cells #[.slice ua4 ss.length ucap4, .int .i64 k, .int .i64 bl, .int .i64 ind] 58)).frozen? ⟨b, j, none⟩ = false)
  have E5 := Lib.hid (heap_alloc_new w4 (.cells #[.slice ua4 ss.length ucap4, .int .i64 k, .int .i64 bl, .int .i64 ind] 58))
  have S5 := Lib.hid (stayRow_alloc S4.out (by decide) (.cells #[.slice ua4 ss.length ucap4, .int .i64 k, .int .i64 bl, .int .i64 ind] 58))
  have hz5 : w.heap.size + 1 + 1 < w4.heap.size := by simp at hz4; omega
  clear hu4 hb4 hz4 hf4 hba
  go_wp2_with fail
  refine (styleE (m := m) (k := k) (bl := bl) (ind := ind) (u := .slice ua4 ss.length ucap4) E5.out M4.out U4.out (by omega) (fun h0 b hb => by
    obtain ⟨b', hb', hle, hlt, hfz⟩ := F4.out h0
    rw [hb'] at hb
    injection hb with hb
    subst hb
    simp at hle
    exact ⟨hfz, by omega, by omega⟩) HPP.out).mono ?_
  rintro e w6 ⟨rfl, ss', hu6, hst, hE6, hO6⟩
  obtain ⟨x0, x1, x2, x3, xf⟩ := hE6.cells
  have S6 := Lib.hid (stayRow_only S5.out hO6 (fun k hk => by
    rcases hk with hk | ⟨h0, hk⟩
    · exact ⟨by simp; omega, by omega⟩
    · obtain ⟨b', hb', hle, hlt, hfz⟩ := F4.out h0
      rw [hb'] at hk
      injection hk with hk
      subst hk
      simp at hle ⊢
      omega) (by decide))
  have U6 := Lib.hid hu6
  have ST := Lib.hid hst
  clear hE6 hO6 hu6 hst
  go_wp2_with fail
  refine (implPiece_any k bl ind ua4 ss.length ucap4 _).mono ?_
  rintro e w7 ⟨rfl, hb7⟩
  have hS := stayRow_step S6.out hb7 (by decide)
  have U7 := Lib.hid (U6.out.below hb7)
  have r0 := hS.2.1 0 (by decide)
  have r1 := hS.2.1 1 (by decide)
  have r2 := hS.2.1 2 (by decide)
  have r3 := hS.2.1 3 (by decide)
  have rf := hS.2.2
  clear x0 x1 x2 x3 xf hb7
  go_wp2
  have hE := stayRow_set (p := ⟨w.heap.size + 1, 3, none⟩) (stayRow_set (p := ⟨w.heap.size + 1, 2, none⟩) (stayRow_set (p := ⟨w.heap.size + 1, 1, none⟩) (stayRow_set (p := ⟨w.heap.size + 1, 0, none⟩) hS (by simp) (.int .i64 k)) (by simp) (.int .i64 bl)) (by simp) (.int .i64 ind)) (by simp) (.slice ua4 ss.length ucap4)
  obtain ⟨q0, q1, q2, q3⟩ := row4 hE
  refine bodyPost_ret (v := .agg #[.int .i64 k, .int .i64 bl, .int .i64 ind, .slice ua4 ss.length ucap4]) (by simp [results, Try.results19, go_sem, q0, q1, q2, q3]) rfl ⟨⟨_, ss', rfl, ?_, ST.out⟩, (below_alloc1 w (.cells #[.int .i64 k, .int .i64 bl, .int .i64 ind, .slice a ss.length cap] 29)).trans (hE.1.1.mono (by simp))⟩
  have hO : Only (fun b => b = w.heap.size + 1) w7 ((((w7.setCell ⟨w.heap.size + 1, 0, none⟩ (.int .i64 k)).setCell ⟨w.heap.size + 1, 1, none⟩ (.int .i64 bl)).setCell ⟨w.heap.size + 1, 2, none⟩ (.int .i64 ind)).setCell ⟨w.heap.size + 1, 3, none⟩ (.slice ua4 ss.length ucap4)) :=
    ((((Only.refl (fun b => b = w.heap.size + 1) w7).set (p := ⟨w.heap.size + 1, 0, none⟩) (.inr rfl) _).set (p := ⟨w.heap.size + 1, 1, none⟩) (.inr rfl) _).set (p := ⟨w.heap.size + 1, 2, none⟩) (.inr rfl) _).set (p := ⟨w.heap.size + 1, 3, none⟩) (.inr rfl) _
  exact U7.out.only hO (fun b hb h0 e => by
    rw [ST.out.len] at h0
    obtain ⟨b', hb', hle, _⟩ := F4.out h0
    rw [hb'] at hb
    injection hb with hb
    simp at hle
    omega)
end Go.Proofs.Ythlnciihabhmaaa
