/-
  The trees of which something is stated, one by one. No function is walked.
-/
import Derived.Test.YtlgajopaokjjaaaGreatFmtNodeAny
import Derived.Test.YtlgajopaokjjaaaGreatFmtBase
namespace Go.Proofs.YtlgajopaokjjaaaGreatFmt
/-- What is known of the nodes below a node: V of nodes, W of fields. -/
structure Kids (V W : Tr → Prop) (t : Tr) : Prop where
  ih : t.k ≠ 20 → ∀ s ∈ t.subs, s.k ≠ 32 → V s
  ih2 : ∀ s, Tr.mk 32 ByteArray.empty 0 false [s] ∈ t.subs → V s
  fld : t.k = 20 → ∀ s ∈ t.subs, W s
  n32 : t.k ≠ 13 → ∀ s ∈ t.subs, s.k ≠ 32
  n32' : ∀ s r, t.subs = s :: r → s.k ≠ 32
theorem Kids.brace {V W : Tr → Prop} {k op : Int} {fl : Bool} {t1 t2 : Tr} (h : Kids V W (.mk k ByteArray.empty op fl [t1, t2])) (hk : (Tr.mk k ByteArray.empty op fl [t1, t2]).k = 9) : Kids V W (.mk 14 ByteArray.empty 0 false [t1, t2]) := by
  have e : k = 9 := hk
  subst e
  exact ⟨fun _ => h.ih (by simp [Tr.k]), h.ih2, fun h => by simp [Tr.k] at h, fun _ => h.n32 (by simp [Tr.k]), h.n32'⟩
theorem ok_k {t : Tr} (h : Ok t) : t.k ≠ 32 ∧ t.k ≠ 37 ∧ t.k ≠ 39 := by cases h <;> simp [Tr.k]
theorem kids_of {V W : Tr → Prop} {t : Tr} (h : ∀ s ∈ t.subs, Ok s) (hv : ∀ s ∈ t.subs, V s) (hk : t.k ≠ 20) : Kids V W t :=
  ⟨fun _ s hs _ => hv s hs, fun s hs => absurd rfl (ok_k (h _ hs)).1, fun e => absurd e hk, fun _ s hs => (ok_k (h s hs)).1, fun s r e => (ok_k (h s (by rw [e]; simp))).1⟩
theorem ok_kids2 {V W : Tr → Prop} (node : ∀ {t : Tr}, Bnd 6 t → Kids V W t → V t) (fld : ∀ {s : Tr}, (s.k = 37 ∨ s.k = 39) ∧ (∀ u ∈ s.subs, V u) → (∀ t1 t2, s.subs = [t1, t2] → t1.k = 4) → W s) {t : Tr} (ok : Ok t) : V t := by
  have leaf : ∀ {t : Tr}, Bnd 6 t → t.subs = [] → t.k ≠ 20 → V t := fun hb h0 hk => node hb (kids_of (by rw [h0]; simp) (by rw [h0]; simp) hk)
  induction ok with
  | null => exact leaf (ok_bnd .null) rfl (by simp [Tr.k])
  | boolean fl => exact leaf (ok_bnd (.boolean fl)) rfl (by simp [Tr.k])
  | number tx => exact leaf (ok_bnd (.number tx)) rfl (by simp [Tr.k])
  | str tx op h0 h4 => exact leaf (ok_bnd (.str tx op h0 h4)) rfl (by simp [Tr.k])
  | self => exact leaf (ok_bnd .self) rfl (by simp [Tr.k])
  | dollar => exact leaf (ok_bnd .dollar) rfl (by simp [Tr.k])
  | var tx => exact leaf (ok_bnd (.var tx)) rfl (by simp [Tr.k])
  | unary op t1 h0 h4 a1 ih1 => exact node (ok_bnd (.unary op t1 h0 h4 a1)) (kids_of (by simpa [Tr.subs] using a1) (by simpa [Tr.subs] using ih1) (by simp [Tr.k]))
  | binary op t1 t2 h0 h4 a1 a2 ih1 ih2 => exact node (ok_bnd (.binary op t1 t2 h0 h4 a1 a2)) (kids_of (by simpa [Tr.subs] using ⟨a1, a2⟩) (by simpa [Tr.subs] using ⟨ih1, ih2⟩) (by simp [Tr.k]))
  | if2 t1 t2 a1 a2 ih1 ih2 => exact node (ok_bnd (.if2 t1 t2 a1 a2)) (kids_of (by simpa [Tr.subs] using ⟨a1, a2⟩) (by simpa [Tr.subs] using ⟨ih1, ih2⟩) (by simp [Tr.k]))
  | if3 t1 t2 t3 a1 a2 a3 ih1 ih2 ih3 => exact node (ok_bnd (.if3 t1 t2 t3 a1 a2 a3)) (kids_of (by simpa [Tr.subs] using ⟨a1, a2, a3⟩) (by simpa [Tr.subs] using ⟨ih1, ih2, ih3⟩) (by simp [Tr.k]))
  | brace t1 t2 a1 a2 ih1 ih2 => exact node (ok_bnd (.brace t1 t2 a1 a2)) (kids_of (by simpa [Tr.subs] using ⟨a1, a2⟩) (by simpa [Tr.subs] using ⟨ih1, ih2⟩) (by simp [Tr.k]))
  | index t1 t2 a1 a2 ih1 ih2 => exact node (ok_bnd (.index t1 t2 a1 a2)) (kids_of (by simpa [Tr.subs] using ⟨a1, a2⟩) (by simpa [Tr.subs] using ⟨ih1, ih2⟩) (by simp [Tr.k]))
  | dot tx t1 a1 ih1 => exact node (ok_bnd (.dot tx t1 a1)) (kids_of (by simpa [Tr.subs] using a1) (by simpa [Tr.subs] using ih1) (by simp [Tr.k]))
  | error t1 a1 ih1 => exact node (ok_bnd (.error t1 a1)) (kids_of (by simpa [Tr.subs] using a1) (by simpa [Tr.subs] using ih1) (by simp [Tr.k]))
  | parens t1 a1 ih1 => exact node (ok_bnd (.parens t1 a1)) (kids_of (by simpa [Tr.subs] using a1) (by simpa [Tr.subs] using ih1) (by simp [Tr.k]))
  | apply t1 l hl a1 aa ih1 ihl =>
    refine node (ok_bnd (.apply t1 l hl a1 aa)) ⟨fun _ s hs h32 => ?_, fun s hs => ?_, fun e => by simp [Tr.k] at e, fun e => absurd rfl e, fun s r e => ?_⟩
    · rcases List.mem_cons.1 hs with rfl | hs
      · exact ih1
      · obtain ⟨x, hx, rfl⟩ := List.mem_map.1 hs
        exact absurd rfl h32
    · rcases List.mem_cons.1 hs with h | hs
      · exact absurd (h ▸ rfl) (ok_k a1).1
      · obtain ⟨x, hx, e⟩ := List.mem_map.1 hs
        injection e with _ _ _ _ e
        injection e with e _
        exact e ▸ ihl x hx
    · injection e with e _
      exact e ▸ (ok_k a1).1
  | array l hl aa ih => exact node (ok_bnd (.array l hl aa)) (kids_of aa ih (by simp [Tr.k]))
  | object l hl hf aa ih =>
    have k37 : ∀ s ∈ l, s.k = 37 ∨ s.k = 39 := fun s hs => by
      rcases (hf s hs).2.2 with ⟨t, e⟩ | ⟨tx, o, t, _, e⟩ <;> rw [e] <;> simp [Tr.k]
    have k4 : ∀ s ∈ l, ∀ t1 t2, s.subs = [t1, t2] → t1.k = 4 := fun s hs t1 t2 h12 => by
      rcases (hf s hs).2.2 with ⟨t, e⟩ | ⟨tx, o, t, _, e⟩
      · rw [e] at h12
        simp [Tr.subs] at h12
      · rw [e] at h12
        have h1 : Tr.mk 4 tx o false [] = t1 := by
          have : [Tr.mk 4 tx o false [], t] = [t1, t2] := h12
          injection this
        rw [← h1]; rfl
    refine node (ok_bnd (.object l hl hf aa)) ⟨fun e => absurd rfl e, fun s hs => ?_, fun _ s hs => fld ⟨k37 s hs, fun u hu => ?_⟩ (k4 s hs), fun _ s hs => ?_, fun s r e => ?_⟩
    · have := k37 _ hs
      simp [Tr.k] at this
    · rcases (hf s hs).2.2 with ⟨t, e⟩ | ⟨tx, o, t, ho, e⟩
      · rw [e] at hu
        obtain rfl : u = t := by simpa [Tr.subs] using hu
        exact ih s hs u (by rw [e]; rfl)
      · rw [e] at hu
        have hu' : u = .mk 4 tx o false [] ∨ u = t := by simpa [Tr.subs] using hu
        rcases hu' with rfl | rfl
        · exact leaf (ok_bnd (.str tx o ho.1 ho.2)) rfl (by simp [Tr.k])
        · exact ih s hs u (by rw [e]; rfl)
    · have := k37 s hs; omega
    · have := k37 s (by
        have e' : l = s :: r := e
        rw [e']; simp)
      omega
theorem ok_kids {V W : Tr → Prop} (node : ∀ {t : Tr}, Bnd 6 t → Kids V W t → V t) (fld : ∀ {s : Tr}, (s.k = 37 ∨ s.k = 39) ∧ (∀ u ∈ s.subs, V u) → W s) {t : Tr} (ok : Ok t) : V t := ok_kids2 node (fun h _ => fld h) ok
end Go.Proofs.YtlgajopaokjjaaaGreatFmt
