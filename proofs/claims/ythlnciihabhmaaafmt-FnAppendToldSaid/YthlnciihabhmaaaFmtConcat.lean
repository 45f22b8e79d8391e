/-
  ast.FodderConcat: pieces are put behind others that the call owns. Conditions: the lists' lengths, the numbers of blank lines.
-/
import Derived.Test.YthlnciihabhmaaaFmtFodder5
namespace Go.Proofs.YthlnciihabhmaaaFmt
open Go.ChangeShapes Go.WideShapes Go.ChangeAt Go.RowKit Go.Joins

theorem ownsRow_base {w : World} {base base' : Nat} {t : TypeId} {n m : Nat} {v : Value} {xs : List Value} (h : w.ownsRow base t n v m xs) (hb : base' ≤ base) : w.ownsRow base' t n v m xs := by
  refine ⟨h.1, ?_⟩
  rcases h.2 with h2 | ⟨g, cap, cur, rfl, hg, r⟩
  · exact .inl h2
  · exact .inr ⟨g, cap, cur, rfl, Nat.le_trans hb hg, r⟩
theorem OwnX.base {f : Pc → Value → List Value} {X : Nat → Prop} {base base' : Nat} {t : TypeId} {w : World} {v : Value} {ps : List Pc} (h : OwnX f X base t w v ps) (hb : base' ≤ base) : OwnX f X base' t w v ps := by
  obtain ⟨xs, ho, hc⟩ := h
  exact ⟨xs, ownsRow_base ho hb, hc⟩
theorem OwnX.lt {f : Pc → Value → List Value} {X : Nat → Prop} {base : Nat} {t : TypeId} {w : World} {v : Value} {ps : List Pc} (h : OwnX f X base t w v ps) {k : Nat} (hk : v.ownBlock = some k) : base ≤ k ∧ k < w.heap.size := by
  obtain ⟨xs, ho, _⟩ := h
  exact ho.lt k hk
/-- What a piece's comment keeps apart from. -/
theorem OwnX.atE {X : Nat → Prop} {base : Nat} {t : TypeId} {w : World} {a : Option Addr} {n cap : Nat} {ps : List Pc} (h : OwnX eV X base t w (.slice a n cap) ps) {i : Nat} {p : Pc} (hp : ps[i]? = some p) :
    ∃ b off u, a = some ⟨b, off, none⟩ ∧ b < w.heap.size ∧ Comm w u p.ss ∧ Far X u p.ss ∧ w.cell? ⟨b, off + i * 4, none⟩ = some u ∧ w.cell? ⟨b, off + i * 4 + 1, none⟩ = some (.int .i64 p.k) ∧
      w.cell? ⟨b, off + i * 4 + 2, none⟩ = some (.int .i64 p.bl) ∧ w.cell? ⟨b, off + i * 4 + 3, none⟩ = some (.int .i64 p.ind) := by
  obtain ⟨xs, ho, hc⟩ := h
  obtain ⟨u, hu, hf, hj⟩ := hc.at_ eV4 i p hp
  have hi : i < ps.length := (List.getElem?_eq_some_iff.1 hp).1
  obtain ⟨g, cap', e, _, hlt⟩ := ho.form (by omega)
  injection e with e1 e2 e3
  subst e1
  have hcell : ∀ j c, xs[j]? = some c → w.cell? ⟨g, 0 + j, none⟩ = some c := fun j c h => by
    have := ho.cells (g := g) rfl j c h
    have hadd : (⟨g, 0, none⟩ : Addr).add j = ⟨g, 0 + j, none⟩ := by unfold Addr.add; split <;> simp_all
    rwa [hadd] at this
  exact ⟨g, 0, u, rfl, hlt, hu, hf.mono fun b hb => .inl hb, hcell _ _ (hj 0 _ rfl), hcell _ _ (hj 1 _ rfl), hcell _ _ (hj 2 _ rfl), hcell _ _ (hj 3 _ rfl)⟩

/-- What the joined pieces are, and what was written. -/
def Joined (base : Nat) (w : World) (v : Value) (qs : List Pc) (e : Ending) (w' : World) : Prop :=
  ∃ v', e = .returned v' ∧ Own eV base 56 w' v' qs ∧ Only (fun k => v.ownBlock = some k) w w'

theorem fodderConcat {w : World} {base base' : Nat} {v v' : Value} {ps qs : List Pc} (hO : Own eV base 56 w v ps) (hO' : OwnX eV (fun k => v.ownBlock = some k) base' 56 w v' qs) (hbb : base ≤ base') (hbase : base ≤ w.heap.size)
    (hne : ∀ k, v.ownBlock = some k → v'.ownBlock ≠ some k) (hm : (ps.length : Int) ≤ 1000) (hm' : (qs.length : Int) ≤ 1000) (hk : ∀ p ∈ qs, p.k = 0 ∨ p.k = 1 ∨ p.k = 2) (hb : ∀ q ∈ ps, 0 ≤ q.bl ∧ q.bl ≤ 1000000) (hb' : ∀ q ∈ qs, 0 ≤ q.bl ∧ q.bl ≤ 1000000) (hn : ∀ q ∈ qs, q.ss.length ≤ 1000000) :
    Calls Tryf.prog 45 #[v, v'] w (Joined base w v (joinP ps qs)) := by
  obtain ⟨a, cap, rfl⟩ := hO.pcs.form
  obtain ⟨a', cap', rfl⟩ := hO'.pcs.form
  rcases Nat.eq_zero_or_pos ps.length with h0 | h0
  · obtain rfl := List.eq_nil_of_length_eq_zero h0
    have e : joinP [] qs = qs := by simp [joinP]
    rw [e]
    have H := Lib.hid (hO'.base hbb)
    clear hO hO' h0 hk hb hb' hn hne
    go_enter Tryf.func45, Tryf.ntmps45
    go_wp2
    go_ret
    exact ⟨_, rfl, H.out.far (fun _ h => h.elim), .refl _ _⟩
  have hz : ((ps.length : Int) == 0) = false := by rw [beq_eq_false_iff_ne]; omega
  have hz' : (ps.length == 0) = false := by rw [beq_eq_false_iff_ne]; omega
  have hz'' : ps.isEmpty = false := by rw [List.isEmpty_eq_false_iff]; exact fun e => by subst e; simp at h0
  have hnil : ps ≠ [] := fun e => by subst e; simp at h0
  rcases Nat.eq_zero_or_pos qs.length with h1 | h1
  · obtain rfl := List.eq_nil_of_length_eq_zero h1
    have e : joinP ps [] = ps := by
      cases ps with
      | nil => rfl
      | cons _ _ => rfl
    rw [e]
    have H := Lib.hid hO
    clear hO hO' h0 hk hb hb' hn hne hnil
    go_enter Tryf.func45, Tryf.ntmps45
    go_wp2
    go_ret
    exact ⟨_, rfl, H.out, .refl _ _⟩
  have hy : ((qs.length : Int) == 0) = false := by rw [beq_eq_false_iff_ne]; omega
  have hy' : (qs.length == 0) = false := by rw [beq_eq_false_iff_ne]; omega
  have hy'' : qs.isEmpty = false := by rw [List.isEmpty_eq_false_iff]; exact fun e => by subst e; simp at h1
  have HE := Lib.hid (joinTo_all (qs := qs) hnil); clear hnil
  obtain ⟨p, hp⟩ : ∃ p, qs[0]? = some p := ⟨_, List.getElem?_eq_getElem h1⟩
  obtain ⟨b, off, u, rfl, hlt, hu, hfu, c0, c1, c2, c3⟩ := hO'.atE hp
  simp only [Nat.zero_mul, Nat.add_zero] at c0 c1 c2 c3
  have hmem := List.mem_of_getElem? hp
  obtain ⟨ua, ucap, rfl⟩ := hu.form
  have hB1 := below_alloc1 w (.cells #[.slice a ps.length cap] 62)
  have hV1 : Var (w.alloc (.cells #[.slice a ps.length cap] 62)) w.heap.size 62 (.slice a ps.length cap) := heap_alloc_new w _
  have hO1 : OwnX eV (fun k => k = w.heap.size) base 56 (w.alloc (.cells #[.slice a ps.length cap] 62)) (.slice a ps.length cap) ps := (hO.far fun k hk => .inr (by omega)).below hB1
  have hu1 := hu.below hB1
  have hfu1 : Far (fun k => k = w.heap.size ∨ (Value.slice a ps.length cap).ownBlock = some k) (.slice ua p.ss.length ucap) p.ss := hu.far_add hfu fun k hk => by
    rcases hk with hk | hk
    · exact .inr (by omega)
    · exact .inl hk
  have HK := Lib.hid hk
  have HB := Lib.hid hb
  have HB' := Lib.hid hb'
  have HN := Lib.hid hn
  have HO := Lib.hid hO
  have HO' := Lib.hid hO'
  have HQ := Lib.hid hp
  have HNE := Lib.hid hne
  have HM := Lib.hid hmem
  have HV1 := Lib.hid hV1
  have HO1 := Lib.hid hO1
  have HU1 := Lib.hid hu1
  have HF1 := Lib.hid hfu1
  have HBZ := Lib.hid (show base ≤ (w.alloc (.cells #[.slice a ps.length cap] 62)).heap.size from Nat.le_trans hbase hB1.size)
  clear hk hb hb' hn hO hO' hp hne hmem hV1 hO1 hu1 hfu1 hu hfu h0
  go_enter Tryf.func45, Tryf.ntmps45
  go_wp2_with fail
  go_at_call 42
  refine (fodderAppend (p := p) HV1.out HO1.out HBZ.out HU1.out HF1.out (by omega) (HK.out p HM.out) (HB'.out p HM.out) HB.out (HN.out p HM.out)).mono ?_
  rintro e w2 ⟨rfl, v1, hv1, ho1, hn1, hr1⟩
  have HA := Lib.hid hv1
  have HC := Lib.hid ho1
  have HD := Lib.hid hn1
  have HG := Lib.hid hr1
  clear hv1 ho1 hn1 hr1 c0 c1 c2 c3
  obtain ⟨i0, hi0, hz0, hs0, hb0⟩ := info_parts infoE
  go_wp2
  go_loopw [6] (fun i wr => ∃ j : Nat, 1 ≤ j ∧ j ≤ qs.length ∧ i = .int .i64 j ∧ ∃ v1, Var wr w.heap.size 62 v1 ∧ OwnX eV (fun k => k = w.heap.size) base 56 wr v1 (joinTo ps qs j) ∧ Only (fun k => (Value.slice a ps.length cap).ownBlock = some k) w wr ∧ ∀ b, v1.ownBlock = some b → (Value.slice a ps.length cap).ownBlock = some b ∨ w.heap.size ≤ b) (fun i _ => qs.length - (intOf i).toNat)
  case atStart =>
    refine ⟨1, Nat.le_refl _, h1, rfl, v1, HA.out, ?_, (Only.of_below hB1).then HD.out (fun i hi h => h.elim (fun e => absurd hi (by omega)) id), fun b hb => (HG.out b hb).imp id (Nat.le_trans hB1.size)⟩
    rw [show joinTo ps qs 1 = appendP ps p from joinTo_one HQ.out]
    exact HC.out
  case round =>
    obtain ⟨j, hj1, hj, rfl, vj, hvj, hoj, hnj, hrj⟩ := hrel
    obtain ⟨aj, capj, ev⟩ := hoj.pcs.form
    obtain ⟨L, hL⟩ : ∃ L, (joinTo ps qs j).length = L := ⟨_, rfl⟩
    have hLm := joinTo_len ps qs j
    rw [hL] at ev hLm
    subst ev
    have z0 := hvj.lt
    have z1 := hvj.cell
    have z2 := hvj.free
    by_cases hjl : j < qs.length
    · obtain ⟨q, hq⟩ : ∃ q, qs[j]? = some q := ⟨_, List.getElem?_eq_getElem hjl⟩
      obtain ⟨b', off', u', e0, hlt', hu', hfu', d0, d1, d2, d3⟩ := (HO'.out.only (Y := fun k => (Value.slice a ps.length cap).ownBlock = some k ∨ w.heap.size ≤ k) hnj (fun b hb => .inl hb) (fun b hb hs => HNE.out b hs hb) (fun b hb => hb)).atE hq
      injection e0 with e0
      injection e0 with e1 e2 _
      subst e1 e2
      obtain ⟨ub, ucapb, rfl⟩ := hu'.form
      obtain ⟨xs, hown, hcs⟩ := hoj
      rw [hL] at hown
      have hf1 : Far (fun k => k = w.heap.size ∨ (Value.slice aj L capj).ownBlock = some k) (.slice ub q.ss.length ucapb) q.ss := hfu'.mono fun k hk => by
        rcases hk with hk | hk
        · exact .inr (by omega)
        · exact hrj k hk
      have hB3 := (below_alloc1 wr (.cells #[.slice ub q.ss.length ucapb, .int .i64 q.k, .int .i64 q.bl, .int .i64 q.ind] 56)).drew
      have HO3 := Lib.hid (ownsRow_below hown hB3)
      have HCS := Lib.hid hcs
      have HV3 := Lib.hid (hvj.below hB3)
      have HNE1 := Lib.hid (hvj.ne_ hown (by decide))
      have HJ := Lib.hid hq
      have HNJ := Lib.hid hnj
      have HRJ := Lib.hid hrj
      have HU := Lib.hid hu'
      have HF := Lib.hid hf1
      have HLL := Lib.hid hL
      have HBY := Lib.hid (show base ≤ ((wr.alloc (.cells #[.slice ub q.ss.length ucapb, .int .i64 q.k, .int .i64 q.bl, .int .i64 q.ind] 56)).drew).heap.size from Nat.le_trans hbase (Nat.le_trans hnj.size hB3.size))
      have HEO := Lib.hid (eV_one hu')
      clear hvj hown hcs hq hnj hrj hu' hfu' hf1 hL
      go_wp2
      go_region_law ((refine step_append_lies _ (by rfl) (.tmp 26) (.tmp 31) 62 (by rfl) base 56 i0 (.agg #[.slice none 0 0, .int .i64 0, .int .i64 0, .int .i64 0]) 4 48 Tryf.underlying62 hi0 hz0 hs0 hb0 rfl (by omega) (.slice aj L capj) L xs (by simp [Act.eval]) HO3.out ⟨wr.heap.size, 0, none⟩ 1 1 (eV q (.slice ub q.ss.length ucapb)) (by simp [Act.eval]) rfl (news4 rfl) HEO.out (by omega) (by unfold maxLen; omega) (by omega) HBY.out _ rfl ?_; intro g cap2 w3 hown2 hgrow2 hat2 hlt2; have HV4 := Lib.hid (var_grown HV3.out HNE1.out hgrow2); have y1 := HV4.out.cell; have y2 := HV4.out.free))
      all_goals
        have HH := Lib.hid hown2; have HGG := Lib.hid hgrow2; have HT := Lib.hid hat2
        clear hown2 hgrow2 hat2
        go_wp2
        go_roundw
        case rel =>
          obtain ⟨_, v2, k1, k2, k3, k4⟩ := appended_of (p := q) hB3 HV4.out HNE1.out z0 HCS.out HU.out HF.out HH.out (by rw [HLL.out]) HGG.out HT.out
          refine ⟨j + 1, by omega, by omega, by go_num, v2, k1, by rw [joinTo_succ HJ.out (by omega)]; exact k2, HNJ.out.then k3 (fun i hi h => h.elim (fun e => absurd hi (by omega)) fun h => (HRJ.out i h).resolve_right (by omega)), fun b hb => (k4 b hb).elim (fun h => HRJ.out b h) fun h => .inr (Nat.le_trans HNJ.out.size h)⟩
        case measure => simp [intOf]; omega
    · have hje : j = qs.length := by omega
      subst hje
      have HOJ := Lib.hid hoj
      have HNJ := Lib.hid hnj
      clear hoj hnj hvj hrj
      go_wp2
      go_ret
      exact ⟨_, rfl, HE.out ▸ HOJ.out.far (fun _ h => h.elim), HNJ.out⟩
end Go.Proofs.YthlnciihabhmaaaFmt
