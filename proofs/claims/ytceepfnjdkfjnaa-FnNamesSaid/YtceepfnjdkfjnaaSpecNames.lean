/-
  spec.Names: what the steps tell, and the names in order. Conditions: the steps are known ones, not too many.
-/
import Derived.Test.YtceepfnjdkfjnaaImplNames
namespace Go.Proofs.Ytceepfnjdkfjnaa
open Go.ChangeShapes Go.WideShapes Go.ChangeAt Go.RowKit Go.Joins Go.Maps

theorem ahead_mono (n : List UInt8) (l : List (List UInt8)) {k : Nat} (hk : k < aheadOf Op.bytesLess n l) : ∃ x, l[k]? = some x ∧ Op.bytesLess x n = true := by
  have h := ahead_le (lt := Op.bytesLess) n l
  have hl : k < l.length := by omega
  refine ⟨l[k], List.getElem?_eq_getElem hl, ahead_lt n l _ ?_⟩
  rw [List.mem_take_iff_getElem]
  exact ⟨k, by omega, rfl⟩
theorem OwnR.read_ {t : TypeId} {base : Nat} {w : World} {g n cap : Nat} {xs : List Value} (h : OwnR t base w (.slice (some ⟨g, 0, none⟩) n cap) xs) : ∀ i x, xs[i]? = some x → w.cell? ⟨g, i, none⟩ = some x := fun _ _ hx => h.cell hx
theorem row_take {w : World} {g : Nat} {xs : List Value} (h : ∀ i x, xs[i]? = some x → w.cell? ⟨g, i, none⟩ = some x) (q : Nat) : ∀ j u, (xs.take q)[j]? = some u → w.cell? ⟨g, 0 + j, none⟩ = some u := fun j u hj => by
  rw [Nat.zero_add]
  rw [List.getElem?_take] at hj
  split at hj
  · exact h _ _ hj
  · cases hj
theorem row_drop {w : World} {g : Nat} {xs : List Value} (h : ∀ i x, xs[i]? = some x → w.cell? ⟨g, i, none⟩ = some x) (p : Nat) : ∀ j u, (xs.drop p)[j]? = some u → w.cell? ⟨g, p + j, none⟩ = some u := fun j u hj => by
  rw [List.getElem?_drop] at hj
  exact h _ _ hj
theorem row_none {w : World} {g : Nat} {xs : List Value} {p : Nat} (h : xs.length ≤ p) : ∀ j u, (xs.drop p)[j]? = some u → w.cell? ⟨g, 0 + j, none⟩ = some u := fun j u hj => by
  rw [List.drop_eq_nil_of_le h] at hj
  simp at hj
theorem strs_one {L : List (List UInt8)} : ∀ u ∈ strs L, u.oneCell' = true := fun u hu => by
  obtain ⟨l, _, rfl⟩ := List.mem_map.1 hu
  rfl
theorem take_one {L : List (List UInt8)} {k : Nat} : ∀ u ∈ (strs L).take k, u.oneCell' = true := fun u hu => strs_one u (List.mem_of_mem_take hu)
theorem drop_one {L : List (List UInt8)} {k : Nat} : ∀ u ∈ (strs L).drop k, u.oneCell' = true := fun u hu => strs_one u (List.mem_of_mem_drop hu)
theorem drop_len (L : List (List UInt8)) (p : Nat) : ((strs L).drop p).length = L.length - p := by rw [List.length_drop, strs_len]
theorem strs_next (put : Bool) (nm : ByteArray) (L : List (List UInt8)) {k : Nat} (hA : aheadOf Op.bytesLess nm.data.toList L = k) {p : Prop} [Decidable p] (hp : (L[k]? = some nm.data.toList) = p) :
    strs (nextOf Op.bytesLess put nm.data.toList L) = (strs L).take k ++ (if put then [.string nm] else []) ++ (if p then (strs L).drop (k + 1) else (strs L).drop k) := by
  unfold nextOf strs
  rw [hA, List.map_append, List.map_append, List.map_take]
  subst hp
  congr 1
  · congr 1
    cases put
    · rfl
    · simp [str_data]
  · split <;> rw [List.map_drop]
def SBox (op : Int) (nm : ByteArray) (wr wa : World) : Prop := Below wr.heap.size wr wa ∧ wa.cell? ⟨wr.heap.size, 0, none⟩ = some (.int .i64 op) ∧ wa.cell? ⟨wr.heap.size, 1, none⟩ = some (.string nm) ∧ wr.heap.size < wa.heap.size
theorem sbox_alloc (op : Int) (nm : ByteArray) (wr : World) : SBox op nm wr (wr.alloc (.cells #[.int .i64 op, .string nm] 27)) := by
  refine ⟨below_alloc1 _ _, ?_, ?_, ?_⟩
  · rw [World.cell?_alloc_mark]
    rfl
  · rw [World.cell?_alloc_mark]
    rfl
  · simp
theorem sbox_drewN {op : Int} {nm : ByteArray} {wr wa : World} (h : SBox op nm wr wa) (n : Nat) : SBox op nm wr (wa.drewN n) := ⟨⟨h.1.os, h.1.tape, h.1.output, h.1.size, h.1.block⟩, h.2⟩
set_option maxRecDepth 100000 in
set_option maxHeartbeats 8000000 in
theorem specNames_any {w : World} {l : List St} {a : Option Addr} (h : StepsAt w l a) (cap : Nat) (hk : Known l) :
    Calls Try.prog 7 #[.slice a l.length cap] w fun e w' => (∃ v1 v2, e = .returned (.tuple #[v1, v2]) ∧ OwnR 4 w.heap.size w' v1 (bits (upTo l l.length).1) ∧ OwnR 9 w.heap.size w' v2 (strs (upTo l l.length).2)) ∧ Below w.heap.size w w' := by
  obtain ⟨ib, hib, hzb, hsb, hbb⟩ := info_parts infoB
  obtain ⟨is_, his, hzs, hss, hbs⟩ := info_parts infoS
  have H := Lib.hid h; clear h
  have h60 := hk.1
  have HK := Lib.hid hk; clear hk
  go_enter Try.func7, Try.ntmps7
  go_wp2
  go_loopw [4, 5, 15] (fun v t i wr => ∃ j : Nat, j ≤ l.length ∧ i = .int .i64 j ∧ OwnR 9 w.heap.size wr v (strs (upTo l j).2) ∧ OwnR 4 w.heap.size wr t (bits (upTo l j).1) ∧ Below w.heap.size w wr) (fun _ _ i _ => l.length - (intOf i).toNat)
  case atStart => exact ⟨0, Nat.zero_le _, rfl, (OwnR.empty (Nat.le_refl _) (heap_alloc_new w (.cells #[] 9))).bel (below_alloc1 _ _), OwnR.empty (by simp) (by have := heap_alloc_new (w.alloc (.cells #[] 9)) (.cells #[] 4); simpa using this), (below_alloc1 _ _).alloc (by simp) _⟩
  case round =>
    obtain ⟨j, hj, rfl, hv, ht, hB⟩ := hrel
    by_cases hjl : j < l.length
    · obtain ⟨⟨op, nm⟩, hx⟩ : ∃ x, l[j]? = some x := ⟨_, List.getElem?_eq_getElem hjl⟩
      obtain ⟨b, off, rfl, hlt, c0, c1⟩ := (H.out.bel hB) j op nm hx
      obtain ⟨k0, k2, kn⟩ := HK.out.2 _ (List.mem_of_getElem? hx)
      have k0' : 0 ≤ op := k0
      have k2' : op ≤ 2 := k2
      have HX := Lib.hid hx
      have hll := upTo_len l j hj
      obtain ⟨L, hL⟩ : ∃ L, (upTo l j).2 = L := ⟨_, rfl⟩
      have hL60 : L.length ≤ 60 := by rw [← hL]; omega
      rw [hL] at hv
      obtain ⟨g, cp, rfl, hgb, hgl, hcp⟩ := hv.form
      have e1 : (strs L).length = L.length := strs_len L
      rw [e1] at hv hcp ⊢
      have HV := Lib.hid hv; have HT := Lib.hid ht; have HB := Lib.hid hB; have HL := Lib.hid hL
      obtain ⟨A, hA⟩ : ∃ A, aheadOf Op.bytesLess nm.data.toList L = A := ⟨_, rfl⟩
      have hAL : A ≤ L.length := by rw [← hA]; exact ahead_le _ _
      have HA := Lib.hid hA
      clear hx k0 k2 kn hll hv ht hB hL e1 hA
      go_wp2
      go_loopw [8] (fun i wi => ∃ k q : Nat, k ≤ A ∧ i = .int .i64 k ∧ wi = (wr.alloc (.cells #[.int .i64 op, .string nm] 27)).drewN q) (fun i _ => A - (intOf i).toNat)
      case atStart => exact ⟨0, 0, Nat.zero_le _, rfl, rfl⟩
      case round =>
        obtain ⟨k, q, hk, rfl, rfl⟩ := hrel
        by_cases hkA : k < A
        · obtain ⟨x, hx, hlx⟩ := ahead_mono nm.data.toList L (k := k) (by rw [HA.out]; exact hkA)
          have c2 := ((HV.out.bel (below_alloc1 wr (.cells #[.int .i64 op, .string nm] 27))).cell (i := k) (x := str x) (by rw [strs, List.getElem?_map, hx]; rfl))
          unfold str at c2
          have hkL : (k : Int) < (L.length : Int) := by omega
          clear hx
          have hlx' : Op.bytesLess x nm.toList = true := by rw [ByteArray.toList_eq]; exact hlx
          go_wp2_with fail
          go_quiet (fail)
          go_wp2
          go_roundw
          case rel => exact ⟨k + 1, q + nq, by omega, by go_num, rfl⟩
          case measure => simp [intOf]; omega
        · obtain rfl : k = A := by omega
          have hcases : op = 0 ∨ op = 1 ∨ op = 2 := by omega
          have hlx := upTo_len l j hj
          have HLN := Lib.hid (show (bits (upTo l j).1).length + 1 ≤ 100000 by rw [bits_len, hlx.1]; omega)
          have HTK := Lib.hid (show ((strs L).take k).length = k by rw [List.length_take, strs_len]; omega)
          have HTK1 := Lib.hid (show ((strs L).take k).length + 1 = k + 1 by rw [List.length_take, strs_len]; omega)
          have HK5 := Lib.hid (show k ≤ 100000 by omega)
          have HK6 := Lib.hid (show k + 1 ≤ 100000 by omega)
          have hkc : k ≤ cp := by omega
          have hLc : L.length ≤ cp := by omega
          have hord := upTo_order l j hj
          have HMEM := Lib.hid (ahead_mem ord_bytes nm.data.toList (show InOrder Op.bytesLess L from HL.out ▸ hord))
          have HNEXT := Lib.hid (show (upTo l (j + 1)).2 = nextOf Op.bytesLess (putB op (decide (nm.data.toList ∈ L))) nm.data.toList L by rw [upTo_next HX.out, ← HL.out]; rfl)
          have HTOLD := Lib.hid (show bits (upTo l (j + 1)).1 = bits (upTo l j).1 ++ [.bool (toldB op (decide (nm.data.toList ∈ L)))] by rw [told_next HX.out, ← HL.out])
          clear hord hlx hkA hk
          by_cases hkL : k < L.length
          · obtain ⟨x, hx⟩ : ∃ x, L[k]? = some x := ⟨_, List.getElem?_eq_getElem hkL⟩
            have hnl := ahead_next (lt := Op.bytesLess) nm.data.toList L x (by rw [HA.out]; exact hx)
            have c2 := ((HV.out.bel (below_alloc1 wr (.cells #[.int .i64 op, .string nm] 27))).cell (i := k) (x := str x) (by rw [strs, List.getElem?_map, hx]; rfl))
            unfold str at c2
            have hkI : (k : Int) < (L.length : Int) := by omega
            have hnl' : Op.bytesLess x nm.toList = false := by rw [ByteArray.toList_eq]; exact hnl
            by_cases hxe : x = nm.data.toList
            · have dx : (x == nm.toList) = true := by rw [ByteArray.toList_eq, hxe]; exact beq_self_eq_true _
              have HIN := Lib.hid (show (L[k]? = some nm.data.toList) = True from eq_true (hxe ▸ hx))
              have HINB := Lib.hid (show decide (nm.data.toList ∈ L) = true from decide_eq_true (HMEM.out.2 (by rw [HA.out]; exact of_eq_true HIN.out)))
              clear hx hxe hnl
              --BEGIN T
              rcases hcases with rfl | rfl | rfl
              ·
                clear k0' k2'
                go_wp2_with fail
                go_quiet (fail)
                go_wp2
                go_quiet (fail)
                generalize hW : World.drewN _ _ = wa
                have HWA := Lib.hid (show SBox 0 nm wr wa by subst hW; (repeat (first | exact sbox_alloc _ _ _ | refine sbox_drewN ?_ _)))
                clear hW c0 c1 c2
                have HVA := Lib.hid (HV.out.bel HWA.out.1)
                have HTA := Lib.hid (HT.out.bel HWA.out.1)
                have HBA := Lib.hid (HB.out.trans (HWA.out.1.mono HB.out.size))
                have HN0 := Lib.hid (OwnR.empty (base := wa.heap.size) (t := 9) (Nat.le_refl _) (heap_alloc_new wa (.cells #[] 9)))
                have HV0 := Lib.hid (HVA.out.bel (below_alloc1 wa (.cells #[] 9)))
                by_cases hlast : L.length ≤ k + 1
                · have hcc : cp = k + 1 ∨ cp ≠ k + 1 := by omega
                  rcases hcc with hcz | hcz
                  ·
                    have hz := hcz.symm
                    subst hz
                    clear hcz
                    go_wp2_with (first
                      | (at_builtin; refine row_append_n Try.underlying29 hib hzb hsb hbb (by decide) rfl HT3.out (news := [.bool false]) (m := 1) rfl (news1 w3 _ 4) (by simp [Value.oneCell']) (n := (bits (upTo l j).1).length + 1) rfl HLN.out HB3b.out.size rfl _ _ rfl rfl rfl ?_; intro g4 cp4 w4 hown4 hgrow4; have hB4 := HB3b.out.grown hgrow4 HB3b.out.size (fun k hk => (HT3.out.in_ k hk).1); have hO4 := HO3b.out.kept hgrow4 (HO3b.out.apart HT3.out (by decide)))
                      | (at_builtin; refine row_append_n Try.underlying30 his hzs hss hbs (by decide) rfl HO2.out (news := []) (sg := g) (so := _) (m := _) (by simp <;> omega) (by intro j u h; cases h) (by intro u h; cases h) (n := k + 1) (by have := HTK.out; simp [strs_len] <;> omega) (by omega) (HG2.out.size) rfl _ _ rfl rfl rfl ?_; intro g3 cp3 w3 hown3 hgrow3; have HG3 := Lib.hid (HG2.out.grown hgrow3 HG2.out.size (fun k hk => (HO2.out.in_ k hk).1)); have HG3 := Lib.hid (HG2.out.grown hgrow3 HG2.out.size (fun k hk => (HO2.out.in_ k hk).1)); have HO3 := Lib.hid hown3; clear hown3 hgrow3 s1; have s1 := ((bcell HG3.out).1 wr.heap.size 0 HWA.out.2.2.2).trans HWA.out.2.1; have HT3 := Lib.hid ((HTA.out.bel HG3.out).bel (below_alloc1 w3 (.cells #[.bool false] 4))); have HO3b := Lib.hid ((HO3.out.bel (below_alloc1 w3 (.cells #[.bool false] 4))).mono (Nat.le_trans HB.out.size HWA.out.1.size)); have HB3 := Lib.hid (HBA.out.trans (HG3.out.mono (HBA.out.size))); have HB3b := Lib.hid (HB3.out.alloc HB3.out.size (.cells #[.bool false] 4)))
                      | (at_builtin; refine row_append_n Try.underlying30 his hzs hss hbs (by decide) rfl HO1b.out (news := [.string nm]) (m := 1) rfl (news1 w1 _ 9) (by simp [Value.oneCell']) (n := k + 1) HTK1.out HK6.out (by have := HG1.out.size; simp; omega) rfl _ _ rfl rfl rfl ?_; intro g2 cp2 w2 hown2 hgrow2; have HG2 := Lib.hid ((HG1.out.alloc HG1.out.size (.cells #[.string nm] 9)).grown hgrow2 (by have := HG1.out.size; simp; omega) (fun k hk => (HO1b.out.in_ k hk).1)); have HO2 := Lib.hid hown2; clear hown2 hgrow2 s1 s2; have s1 := ((bcell HG2.out).1 wr.heap.size 0 HWA.out.2.2.2).trans HWA.out.2.1; have HVC := Lib.hid (HVA.out.bel HG2.out))
                      | (at_builtin; refine row_append_n Try.underlying30 his hzs hss hbs (by decide) rfl HN0.out (news := (strs L).take k) (sg := g) (so := 0) (m := k) HTK.out (row_take HV0.out.read_ k) take_one (n := k) (Nat.zero_add k) HK5.out (by simp) rfl _ _ rfl rfl rfl ?_; intro g1 cp1 w1 hown1 hgrow1; rw [List.nil_append] at hown1; have HG1 := Lib.hid ((below_alloc1 wa (.cells #[] 9)).grown hgrow1 (by simp) (fun k hk => (HN0.out.in_ k hk).1)); have HO1 := Lib.hid hown1; clear hown1 hgrow1; have s1 := ((bcell HG1.out).1 wr.heap.size 0 HWA.out.2.2.2).trans HWA.out.2.1; have s2 := ((bcell HG1.out).1 wr.heap.size 1 HWA.out.2.2.2).trans HWA.out.2.2.1; have HO1b := Lib.hid (HO1.out.bel (below_alloc1 w1 (.cells #[.string nm] 9)))))
                    go_roundw
                    case rel =>
                      refine ⟨j + 1, by omega, by go_num, ?_, ?_, hB4⟩
                      · rw [HNEXT.out, strs_next _ _ _ HA.out HIN.out, HINB.out]
                        have hd : (strs L).drop (k + 1) = [] := List.drop_eq_nil_of_le (by rw [strs_len]; omega)
                        simpa [putB, hd] using hO4
                      · rw [HTOLD.out, HINB.out]
                        exact hown4
                    case measure => simp [intOf]; omega
                  ·
                    go_wp2_with (first
                      | (at_builtin; refine row_append_n Try.underlying29 hib hzb hsb hbb (by decide) rfl HT3.out (news := [.bool false]) (m := 1) rfl (news1 w3 _ 4) (by simp [Value.oneCell']) (n := (bits (upTo l j).1).length + 1) rfl HLN.out HB3b.out.size rfl _ _ rfl rfl rfl ?_; intro g4 cp4 w4 hown4 hgrow4; have hB4 := HB3b.out.grown hgrow4 HB3b.out.size (fun k hk => (HT3.out.in_ k hk).1); have hO4 := HO3b.out.kept hgrow4 (HO3b.out.apart HT3.out (by decide)))
                      | (at_builtin; refine row_append_n Try.underlying30 his hzs hss hbs (by decide) rfl HO2.out (news := []) (sg := g) (so := _) (m := _) (by simp <;> omega) (by intro j u h; cases h) (by intro u h; cases h) (n := k + 1) (by have := HTK.out; simp [strs_len] <;> omega) (by omega) (HG2.out.size) rfl _ _ rfl rfl rfl ?_; intro g3 cp3 w3 hown3 hgrow3; have HG3 := Lib.hid (HG2.out.grown hgrow3 HG2.out.size (fun k hk => (HO2.out.in_ k hk).1)); have HG3 := Lib.hid (HG2.out.grown hgrow3 HG2.out.size (fun k hk => (HO2.out.in_ k hk).1)); have HO3 := Lib.hid hown3; clear hown3 hgrow3 s1; have s1 := ((bcell HG3.out).1 wr.heap.size 0 HWA.out.2.2.2).trans HWA.out.2.1; have HT3 := Lib.hid ((HTA.out.bel HG3.out).bel (below_alloc1 w3 (.cells #[.bool false] 4))); have HO3b := Lib.hid ((HO3.out.bel (below_alloc1 w3 (.cells #[.bool false] 4))).mono (Nat.le_trans HB.out.size HWA.out.1.size)); have HB3 := Lib.hid (HBA.out.trans (HG3.out.mono (HBA.out.size))); have HB3b := Lib.hid (HB3.out.alloc HB3.out.size (.cells #[.bool false] 4)))
                      | (at_builtin; refine row_append_n Try.underlying30 his hzs hss hbs (by decide) rfl HO1b.out (news := [.string nm]) (m := 1) rfl (news1 w1 _ 9) (by simp [Value.oneCell']) (n := k + 1) HTK1.out HK6.out (by have := HG1.out.size; simp; omega) rfl _ _ rfl rfl rfl ?_; intro g2 cp2 w2 hown2 hgrow2; have HG2 := Lib.hid ((HG1.out.alloc HG1.out.size (.cells #[.string nm] 9)).grown hgrow2 (by have := HG1.out.size; simp; omega) (fun k hk => (HO1b.out.in_ k hk).1)); have HO2 := Lib.hid hown2; clear hown2 hgrow2 s1 s2; have s1 := ((bcell HG2.out).1 wr.heap.size 0 HWA.out.2.2.2).trans HWA.out.2.1; have HVC := Lib.hid (HVA.out.bel HG2.out))
                      | (at_builtin; refine row_append_n Try.underlying30 his hzs hss hbs (by decide) rfl HN0.out (news := (strs L).take k) (sg := g) (so := 0) (m := k) HTK.out (row_take HV0.out.read_ k) take_one (n := k) (Nat.zero_add k) HK5.out (by simp) rfl _ _ rfl rfl rfl ?_; intro g1 cp1 w1 hown1 hgrow1; rw [List.nil_append] at hown1; have HG1 := Lib.hid ((below_alloc1 wa (.cells #[] 9)).grown hgrow1 (by simp) (fun k hk => (HN0.out.in_ k hk).1)); have HO1 := Lib.hid hown1; clear hown1 hgrow1; have s1 := ((bcell HG1.out).1 wr.heap.size 0 HWA.out.2.2.2).trans HWA.out.2.1; have s2 := ((bcell HG1.out).1 wr.heap.size 1 HWA.out.2.2.2).trans HWA.out.2.2.1; have HO1b := Lib.hid (HO1.out.bel (below_alloc1 w1 (.cells #[.string nm] 9)))))
                    go_roundw
                    case rel =>
                      refine ⟨j + 1, by omega, by go_num, ?_, ?_, hB4⟩
                      · rw [HNEXT.out, strs_next _ _ _ HA.out HIN.out, HINB.out]
                        have hd : (strs L).drop (k + 1) = [] := List.drop_eq_nil_of_le (by rw [strs_len]; omega)
                        simpa [putB, hd] using hO4
                      · rw [HTOLD.out, HINB.out]
                        exact hown4
                    case measure => simp [intOf]; omega
                · have hcz : cp ≠ k + 1 := by omega
                  obtain ⟨N, hN⟩ : ∃ N, (k + 1) + (L.length - (k + 1)) = N := ⟨_, rfl⟩
                  have HNN := Lib.hid hN
                  have hN1 : N ≤ 1000 := by omega
                  clear hN
                  go_wp2_with (first
                    | (at_builtin; refine row_append_n Try.underlying29 hib hzb hsb hbb (by decide) rfl HT3.out (news := [.bool false]) (m := 1) rfl (news1 w3 _ 4) (by simp [Value.oneCell']) (n := (bits (upTo l j).1).length + 1) rfl HLN.out HB3b.out.size rfl _ _ rfl rfl rfl ?_; intro g4 cp4 w4 hown4 hgrow4; have hB4 := HB3b.out.grown hgrow4 HB3b.out.size (fun k hk => (HT3.out.in_ k hk).1); have hO4 := HO3b.out.kept hgrow4 (HO3b.out.apart HT3.out (by decide)))
                    | (at_builtin; refine row_append_n Try.underlying30 his hzs hss hbs (by decide) rfl HO2.out (news := (strs L).drop (k + 1)) (sg := g) (so := k + 1) (m := L.length - (k + 1)) (drop_len L (k + 1)) (row_drop HVC.out.read_ (k + 1)) drop_one (n := N) (by rw [← HNN.out]; have := HTK.out; simp [strs_len]; omega) (by omega) (HG2.out.size) rfl _ _ rfl rfl rfl ?_; intro g3 cp3 w3 hown3 hgrow3; have HG3 := Lib.hid (HG2.out.grown hgrow3 HG2.out.size (fun k hk => (HO2.out.in_ k hk).1)); have HO3 := Lib.hid hown3; clear hown3 hgrow3 s1; have s1 := ((bcell HG3.out).1 wr.heap.size 0 HWA.out.2.2.2).trans HWA.out.2.1; have HT3 := Lib.hid ((HTA.out.bel HG3.out).bel (below_alloc1 w3 (.cells #[.bool false] 4))); have HO3b := Lib.hid ((HO3.out.bel (below_alloc1 w3 (.cells #[.bool false] 4))).mono (Nat.le_trans HB.out.size HWA.out.1.size)); have HB3 := Lib.hid (HBA.out.trans (HG3.out.mono (HBA.out.size))); have HB3b := Lib.hid (HB3.out.alloc HB3.out.size (.cells #[.bool false] 4)))
                    | (at_builtin; refine row_append_n Try.underlying30 his hzs hss hbs (by decide) rfl HO1b.out (news := [.string nm]) (m := 1) rfl (news1 w1 _ 9) (by simp [Value.oneCell']) (n := k + 1) HTK1.out HK6.out (by have := HG1.out.size; simp; omega) rfl _ _ rfl rfl rfl ?_; intro g2 cp2 w2 hown2 hgrow2; have HG2 := Lib.hid ((HG1.out.alloc HG1.out.size (.cells #[.string nm] 9)).grown hgrow2 (by have := HG1.out.size; simp; omega) (fun k hk => (HO1b.out.in_ k hk).1)); have HO2 := Lib.hid hown2; clear hown2 hgrow2 s1 s2; have s1 := ((bcell HG2.out).1 wr.heap.size 0 HWA.out.2.2.2).trans HWA.out.2.1; have HVC := Lib.hid (HVA.out.bel HG2.out))
                    | (at_builtin; refine row_append_n Try.underlying30 his hzs hss hbs (by decide) rfl HN0.out (news := (strs L).take k) (sg := g) (so := 0) (m := k) HTK.out (row_take HV0.out.read_ k) take_one (n := k) (Nat.zero_add k) HK5.out (by simp) rfl _ _ rfl rfl rfl ?_; intro g1 cp1 w1 hown1 hgrow1; rw [List.nil_append] at hown1; have HG1 := Lib.hid ((below_alloc1 wa (.cells #[] 9)).grown hgrow1 (by simp) (fun k hk => (HN0.out.in_ k hk).1)); have HO1 := Lib.hid hown1; clear hown1 hgrow1; have s1 := ((bcell HG1.out).1 wr.heap.size 0 HWA.out.2.2.2).trans HWA.out.2.1; have s2 := ((bcell HG1.out).1 wr.heap.size 1 HWA.out.2.2.2).trans HWA.out.2.2.1; have HO1b := Lib.hid (HO1.out.bel (below_alloc1 w1 (.cells #[.string nm] 9)))))
                  go_roundw
                  case rel =>
                    refine ⟨j + 1, by omega, by go_num, ?_, ?_, hB4⟩
                    · rw [HNEXT.out, strs_next _ _ _ HA.out HIN.out, HINB.out]
                      simpa [putB] using hO4
                    · rw [HTOLD.out, HINB.out]
                      exact hown4
                  case measure => simp [intOf]; omega
              ·
                clear k0' k2'
                go_wp2_with fail
                go_quiet (fail)
                go_wp2
                go_quiet (fail)
                generalize hW : World.drewN _ _ = wa
                have HWA := Lib.hid (show SBox 1 nm wr wa by subst hW; (repeat (first | exact sbox_alloc _ _ _ | refine sbox_drewN ?_ _)))
                clear hW c0 c1 c2
                have HVA := Lib.hid (HV.out.bel HWA.out.1)
                have HTA := Lib.hid (HT.out.bel HWA.out.1)
                have HBA := Lib.hid (HB.out.trans (HWA.out.1.mono HB.out.size))
                have HN0 := Lib.hid (OwnR.empty (base := wa.heap.size) (t := 9) (Nat.le_refl _) (heap_alloc_new wa (.cells #[] 9)))
                have HV0 := Lib.hid (HVA.out.bel (below_alloc1 wa (.cells #[] 9)))
                by_cases hlast : L.length ≤ k + 1
                · have hcc : cp = k + 1 ∨ cp ≠ k + 1 := by omega
                  rcases hcc with hcz | hcz
                  ·
                    have hz := hcz.symm
                    subst hz
                    clear hcz
                    go_wp2_with (first
                      | (at_builtin; refine row_append_n Try.underlying29 hib hzb hsb hbb (by decide) rfl HT3.out (news := [.bool true]) (m := 1) rfl (news1 w3 _ 4) (by simp [Value.oneCell']) (n := (bits (upTo l j).1).length + 1) rfl HLN.out HB3b.out.size rfl _ _ rfl rfl rfl ?_; intro g4 cp4 w4 hown4 hgrow4; have hB4 := HB3b.out.grown hgrow4 HB3b.out.size (fun k hk => (HT3.out.in_ k hk).1); have hO4 := HO3b.out.kept hgrow4 (HO3b.out.apart HT3.out (by decide)))
                      | (at_builtin; refine row_append_n Try.underlying30 his hzs hss hbs (by decide) rfl HO1.out (news := []) (sg := g) (so := _) (m := _) (by simp <;> omega) (by intro j u h; cases h) (by intro u h; cases h) (n := k) (by have := HTK.out; simp [strs_len] <;> omega) (by omega) (HG1.out.size) rfl _ _ rfl rfl rfl ?_; intro g3 cp3 w3 hown3 hgrow3; have HG3 := Lib.hid (HG1.out.grown hgrow3 HG1.out.size (fun k hk => (HO1.out.in_ k hk).1)); have HG3 := Lib.hid (HG1.out.grown hgrow3 HG1.out.size (fun k hk => (HO1.out.in_ k hk).1)); have HO3 := Lib.hid hown3; clear hown3 hgrow3 s1; have s1 := ((bcell HG3.out).1 wr.heap.size 0 HWA.out.2.2.2).trans HWA.out.2.1; have HT3 := Lib.hid ((HTA.out.bel HG3.out).bel (below_alloc1 w3 (.cells #[.bool true] 4))); have HO3b := Lib.hid ((HO3.out.bel (below_alloc1 w3 (.cells #[.bool true] 4))).mono (Nat.le_trans HB.out.size HWA.out.1.size)); have HB3 := Lib.hid (HBA.out.trans (HG3.out.mono (HBA.out.size))); have HB3b := Lib.hid (HB3.out.alloc HB3.out.size (.cells #[.bool true] 4)))
                      | (at_builtin; refine row_append_n Try.underlying30 his hzs hss hbs (by decide) rfl HN0.out (news := (strs L).take k) (sg := g) (so := 0) (m := k) HTK.out (row_take HV0.out.read_ k) take_one (n := k) (Nat.zero_add k) HK5.out (by simp) rfl _ _ rfl rfl rfl ?_; intro g1 cp1 w1 hown1 hgrow1; rw [List.nil_append] at hown1; have HG1 := Lib.hid ((below_alloc1 wa (.cells #[] 9)).grown hgrow1 (by simp) (fun k hk => (HN0.out.in_ k hk).1)); have HO1 := Lib.hid hown1; clear hown1 hgrow1; have s1 := ((bcell HG1.out).1 wr.heap.size 0 HWA.out.2.2.2).trans HWA.out.2.1; have s2 := ((bcell HG1.out).1 wr.heap.size 1 HWA.out.2.2.2).trans HWA.out.2.2.1; have HVC := Lib.hid (HVA.out.bel HG1.out)))
                    go_roundw
                    case rel =>
                      refine ⟨j + 1, by omega, by go_num, ?_, ?_, hB4⟩
                      · rw [HNEXT.out, strs_next _ _ _ HA.out HIN.out, HINB.out]
                        have hd : (strs L).drop (k + 1) = [] := List.drop_eq_nil_of_le (by rw [strs_len]; omega)
                        simpa [putB, hd] using hO4
                      · rw [HTOLD.out, HINB.out]
                        exact hown4
                    case measure => simp [intOf]; omega
                  ·
                    go_wp2_with (first
                      | (at_builtin; refine row_append_n Try.underlying29 hib hzb hsb hbb (by decide) rfl HT3.out (news := [.bool true]) (m := 1) rfl (news1 w3 _ 4) (by simp [Value.oneCell']) (n := (bits (upTo l j).1).length + 1) rfl HLN.out HB3b.out.size rfl _ _ rfl rfl rfl ?_; intro g4 cp4 w4 hown4 hgrow4; have hB4 := HB3b.out.grown hgrow4 HB3b.out.size (fun k hk => (HT3.out.in_ k hk).1); have hO4 := HO3b.out.kept hgrow4 (HO3b.out.apart HT3.out (by decide)))
                      | (at_builtin; refine row_append_n Try.underlying30 his hzs hss hbs (by decide) rfl HO1.out (news := []) (sg := g) (so := _) (m := _) (by simp <;> omega) (by intro j u h; cases h) (by intro u h; cases h) (n := k) (by have := HTK.out; simp [strs_len] <;> omega) (by omega) (HG1.out.size) rfl _ _ rfl rfl rfl ?_; intro g3 cp3 w3 hown3 hgrow3; have HG3 := Lib.hid (HG1.out.grown hgrow3 HG1.out.size (fun k hk => (HO1.out.in_ k hk).1)); have HG3 := Lib.hid (HG1.out.grown hgrow3 HG1.out.size (fun k hk => (HO1.out.in_ k hk).1)); have HO3 := Lib.hid hown3; clear hown3 hgrow3 s1; have s1 := ((bcell HG3.out).1 wr.heap.size 0 HWA.out.2.2.2).trans HWA.out.2.1; have HT3 := Lib.hid ((HTA.out.bel HG3.out).bel (below_alloc1 w3 (.cells #[.bool true] 4))); have HO3b := Lib.hid ((HO3.out.bel (below_alloc1 w3 (.cells #[.bool true] 4))).mono (Nat.le_trans HB.out.size HWA.out.1.size)); have HB3 := Lib.hid (HBA.out.trans (HG3.out.mono (HBA.out.size))); have HB3b := Lib.hid (HB3.out.alloc HB3.out.size (.cells #[.bool true] 4)))
                      | (at_builtin; refine row_append_n Try.underlying30 his hzs hss hbs (by decide) rfl HN0.out (news := (strs L).take k) (sg := g) (so := 0) (m := k) HTK.out (row_take HV0.out.read_ k) take_one (n := k) (Nat.zero_add k) HK5.out (by simp) rfl _ _ rfl rfl rfl ?_; intro g1 cp1 w1 hown1 hgrow1; rw [List.nil_append] at hown1; have HG1 := Lib.hid ((below_alloc1 wa (.cells #[] 9)).grown hgrow1 (by simp) (fun k hk => (HN0.out.in_ k hk).1)); have HO1 := Lib.hid hown1; clear hown1 hgrow1; have s1 := ((bcell HG1.out).1 wr.heap.size 0 HWA.out.2.2.2).trans HWA.out.2.1; have s2 := ((bcell HG1.out).1 wr.heap.size 1 HWA.out.2.2.2).trans HWA.out.2.2.1; have HVC := Lib.hid (HVA.out.bel HG1.out)))
                    go_roundw
                    case rel =>
                      refine ⟨j + 1, by omega, by go_num, ?_, ?_, hB4⟩
                      · rw [HNEXT.out, strs_next _ _ _ HA.out HIN.out, HINB.out]
                        have hd : (strs L).drop (k + 1) = [] := List.drop_eq_nil_of_le (by rw [strs_len]; omega)
                        simpa [putB, hd] using hO4
                      · rw [HTOLD.out, HINB.out]
                        exact hown4
                    case measure => simp [intOf]; omega
                · have hcz : cp ≠ k + 1 := by omega
                  obtain ⟨N, hN⟩ : ∃ N, (k) + (L.length - (k + 1)) = N := ⟨_, rfl⟩
                  have HNN := Lib.hid hN
                  have hN1 : N ≤ 1000 := by omega
                  clear hN
                  go_wp2_with (first
                    | (at_builtin; refine row_append_n Try.underlying29 hib hzb hsb hbb (by decide) rfl HT3.out (news := [.bool true]) (m := 1) rfl (news1 w3 _ 4) (by simp [Value.oneCell']) (n := (bits (upTo l j).1).length + 1) rfl HLN.out HB3b.out.size rfl _ _ rfl rfl rfl ?_; intro g4 cp4 w4 hown4 hgrow4; have hB4 := HB3b.out.grown hgrow4 HB3b.out.size (fun k hk => (HT3.out.in_ k hk).1); have hO4 := HO3b.out.kept hgrow4 (HO3b.out.apart HT3.out (by decide)))
                    | (at_builtin; refine row_append_n Try.underlying30 his hzs hss hbs (by decide) rfl HO1.out (news := (strs L).drop (k + 1)) (sg := g) (so := k + 1) (m := L.length - (k + 1)) (drop_len L (k + 1)) (row_drop HVC.out.read_ (k + 1)) drop_one (n := N) (by rw [← HNN.out]; have := HTK.out; simp [strs_len]; omega) (by omega) (HG1.out.size) rfl _ _ rfl rfl rfl ?_; intro g3 cp3 w3 hown3 hgrow3; have HG3 := Lib.hid (HG1.out.grown hgrow3 HG1.out.size (fun k hk => (HO1.out.in_ k hk).1)); have HO3 := Lib.hid hown3; clear hown3 hgrow3 s1; have s1 := ((bcell HG3.out).1 wr.heap.size 0 HWA.out.2.2.2).trans HWA.out.2.1; have HT3 := Lib.hid ((HTA.out.bel HG3.out).bel (below_alloc1 w3 (.cells #[.bool true] 4))); have HO3b := Lib.hid ((HO3.out.bel (below_alloc1 w3 (.cells #[.bool true] 4))).mono (Nat.le_trans HB.out.size HWA.out.1.size)); have HB3 := Lib.hid (HBA.out.trans (HG3.out.mono (HBA.out.size))); have HB3b := Lib.hid (HB3.out.alloc HB3.out.size (.cells #[.bool true] 4)))
                    | (at_builtin; refine row_append_n Try.underlying30 his hzs hss hbs (by decide) rfl HN0.out (news := (strs L).take k) (sg := g) (so := 0) (m := k) HTK.out (row_take HV0.out.read_ k) take_one (n := k) (Nat.zero_add k) HK5.out (by simp) rfl _ _ rfl rfl rfl ?_; intro g1 cp1 w1 hown1 hgrow1; rw [List.nil_append] at hown1; have HG1 := Lib.hid ((below_alloc1 wa (.cells #[] 9)).grown hgrow1 (by simp) (fun k hk => (HN0.out.in_ k hk).1)); have HO1 := Lib.hid hown1; clear hown1 hgrow1; have s1 := ((bcell HG1.out).1 wr.heap.size 0 HWA.out.2.2.2).trans HWA.out.2.1; have s2 := ((bcell HG1.out).1 wr.heap.size 1 HWA.out.2.2.2).trans HWA.out.2.2.1; have HVC := Lib.hid (HVA.out.bel HG1.out)))
                  go_roundw
                  case rel =>
                    refine ⟨j + 1, by omega, by go_num, ?_, ?_, hB4⟩
                    · rw [HNEXT.out, strs_next _ _ _ HA.out HIN.out, HINB.out]
                      simpa [putB] using hO4
                    · rw [HTOLD.out, HINB.out]
                      exact hown4
                  case measure => simp [intOf]; omega
              ·
                clear k0' k2'
                go_wp2_with fail
                go_quiet (fail)
                go_wp2
                go_quiet (fail)
                generalize hW : World.drewN _ _ = wa
                have HWA := Lib.hid (show SBox 2 nm wr wa by subst hW; (repeat (first | exact sbox_alloc _ _ _ | refine sbox_drewN ?_ _)))
                clear hW c0 c1 c2
                have HVA := Lib.hid (HV.out.bel HWA.out.1)
                have HTA := Lib.hid (HT.out.bel HWA.out.1)
                have HBA := Lib.hid (HB.out.trans (HWA.out.1.mono HB.out.size))
                have HN0 := Lib.hid (OwnR.empty (base := wa.heap.size) (t := 9) (Nat.le_refl _) (heap_alloc_new wa (.cells #[] 9)))
                have HV0 := Lib.hid (HVA.out.bel (below_alloc1 wa (.cells #[] 9)))
                by_cases hlast : L.length ≤ k + 1
                · have hcc : cp = k + 1 ∨ cp ≠ k + 1 := by omega
                  rcases hcc with hcz | hcz
                  ·
                    have hz := hcz.symm
                    subst hz
                    clear hcz
                    go_wp2_with (first
                      | (at_builtin; refine row_append_n Try.underlying29 hib hzb hsb hbb (by decide) rfl HT3.out (news := [.bool true]) (m := 1) rfl (news1 w3 _ 4) (by simp [Value.oneCell']) (n := (bits (upTo l j).1).length + 1) rfl HLN.out HB3b.out.size rfl _ _ rfl rfl rfl ?_; intro g4 cp4 w4 hown4 hgrow4; have hB4 := HB3b.out.grown hgrow4 HB3b.out.size (fun k hk => (HT3.out.in_ k hk).1); have hO4 := HO3b.out.kept hgrow4 (HO3b.out.apart HT3.out (by decide)))
                      | (at_builtin; refine row_append_n Try.underlying30 his hzs hss hbs (by decide) rfl HO2.out (news := []) (sg := g) (so := _) (m := _) (by simp <;> omega) (by intro j u h; cases h) (by intro u h; cases h) (n := k + 1) (by have := HTK.out; simp [strs_len] <;> omega) (by omega) (HG2.out.size) rfl _ _ rfl rfl rfl ?_; intro g3 cp3 w3 hown3 hgrow3; have HG3 := Lib.hid (HG2.out.grown hgrow3 HG2.out.size (fun k hk => (HO2.out.in_ k hk).1)); have HG3 := Lib.hid (HG2.out.grown hgrow3 HG2.out.size (fun k hk => (HO2.out.in_ k hk).1)); have HO3 := Lib.hid hown3; clear hown3 hgrow3 s1; have s1 := ((bcell HG3.out).1 wr.heap.size 0 HWA.out.2.2.2).trans HWA.out.2.1; have HT3 := Lib.hid ((HTA.out.bel HG3.out).bel (below_alloc1 w3 (.cells #[.bool true] 4))); have HO3b := Lib.hid ((HO3.out.bel (below_alloc1 w3 (.cells #[.bool true] 4))).mono (Nat.le_trans HB.out.size HWA.out.1.size)); have HB3 := Lib.hid (HBA.out.trans (HG3.out.mono (HBA.out.size))); have HB3b := Lib.hid (HB3.out.alloc HB3.out.size (.cells #[.bool true] 4)))
                      | (at_builtin; refine row_append_n Try.underlying30 his hzs hss hbs (by decide) rfl HO1b.out (news := [.string nm]) (m := 1) rfl (news1 w1 _ 9) (by simp [Value.oneCell']) (n := k + 1) HTK1.out HK6.out (by have := HG1.out.size; simp; omega) rfl _ _ rfl rfl rfl ?_; intro g2 cp2 w2 hown2 hgrow2; have HG2 := Lib.hid ((HG1.out.alloc HG1.out.size (.cells #[.string nm] 9)).grown hgrow2 (by have := HG1.out.size; simp; omega) (fun k hk => (HO1b.out.in_ k hk).1)); have HO2 := Lib.hid hown2; clear hown2 hgrow2 s1 s2; have s1 := ((bcell HG2.out).1 wr.heap.size 0 HWA.out.2.2.2).trans HWA.out.2.1; have HVC := Lib.hid (HVA.out.bel HG2.out))
                      | (at_builtin; refine row_append_n Try.underlying30 his hzs hss hbs (by decide) rfl HN0.out (news := (strs L).take k) (sg := g) (so := 0) (m := k) HTK.out (row_take HV0.out.read_ k) take_one (n := k) (Nat.zero_add k) HK5.out (by simp) rfl _ _ rfl rfl rfl ?_; intro g1 cp1 w1 hown1 hgrow1; rw [List.nil_append] at hown1; have HG1 := Lib.hid ((below_alloc1 wa (.cells #[] 9)).grown hgrow1 (by simp) (fun k hk => (HN0.out.in_ k hk).1)); have HO1 := Lib.hid hown1; clear hown1 hgrow1; have s1 := ((bcell HG1.out).1 wr.heap.size 0 HWA.out.2.2.2).trans HWA.out.2.1; have s2 := ((bcell HG1.out).1 wr.heap.size 1 HWA.out.2.2.2).trans HWA.out.2.2.1; have HO1b := Lib.hid (HO1.out.bel (below_alloc1 w1 (.cells #[.string nm] 9)))))
                    go_roundw
                    case rel =>
                      refine ⟨j + 1, by omega, by go_num, ?_, ?_, hB4⟩
                      · rw [HNEXT.out, strs_next _ _ _ HA.out HIN.out, HINB.out]
                        have hd : (strs L).drop (k + 1) = [] := List.drop_eq_nil_of_le (by rw [strs_len]; omega)
                        simpa [putB, hd] using hO4
                      · rw [HTOLD.out, HINB.out]
                        exact hown4
                    case measure => simp [intOf]; omega
                  ·
                    go_wp2_with (first
                      | (at_builtin; refine row_append_n Try.underlying29 hib hzb hsb hbb (by decide) rfl HT3.out (news := [.bool true]) (m := 1) rfl (news1 w3 _ 4) (by simp [Value.oneCell']) (n := (bits (upTo l j).1).length + 1) rfl HLN.out HB3b.out.size rfl _ _ rfl rfl rfl ?_; intro g4 cp4 w4 hown4 hgrow4; have hB4 := HB3b.out.grown hgrow4 HB3b.out.size (fun k hk => (HT3.out.in_ k hk).1); have hO4 := HO3b.out.kept hgrow4 (HO3b.out.apart HT3.out (by decide)))
                      | (at_builtin; refine row_append_n Try.underlying30 his hzs hss hbs (by decide) rfl HO2.out (news := []) (sg := g) (so := _) (m := _) (by simp <;> omega) (by intro j u h; cases h) (by intro u h; cases h) (n := k + 1) (by have := HTK.out; simp [strs_len] <;> omega) (by omega) (HG2.out.size) rfl _ _ rfl rfl rfl ?_; intro g3 cp3 w3 hown3 hgrow3; have HG3 := Lib.hid (HG2.out.grown hgrow3 HG2.out.size (fun k hk => (HO2.out.in_ k hk).1)); have HG3 := Lib.hid (HG2.out.grown hgrow3 HG2.out.size (fun k hk => (HO2.out.in_ k hk).1)); have HO3 := Lib.hid hown3; clear hown3 hgrow3 s1; have s1 := ((bcell HG3.out).1 wr.heap.size 0 HWA.out.2.2.2).trans HWA.out.2.1; have HT3 := Lib.hid ((HTA.out.bel HG3.out).bel (below_alloc1 w3 (.cells #[.bool true] 4))); have HO3b := Lib.hid ((HO3.out.bel (below_alloc1 w3 (.cells #[.bool true] 4))).mono (Nat.le_trans HB.out.size HWA.out.1.size)); have HB3 := Lib.hid (HBA.out.trans (HG3.out.mono (HBA.out.size))); have HB3b := Lib.hid (HB3.out.alloc HB3.out.size (.cells #[.bool true] 4)))
                      | (at_builtin; refine row_append_n Try.underlying30 his hzs hss hbs (by decide) rfl HO1b.out (news := [.string nm]) (m := 1) rfl (news1 w1 _ 9) (by simp [Value.oneCell']) (n := k + 1) HTK1.out HK6.out (by have := HG1.out.size; simp; omega) rfl _ _ rfl rfl rfl ?_; intro g2 cp2 w2 hown2 hgrow2; have HG2 := Lib.hid ((HG1.out.alloc HG1.out.size (.cells #[.string nm] 9)).grown hgrow2 (by have := HG1.out.size; simp; omega) (fun k hk => (HO1b.out.in_ k hk).1)); have HO2 := Lib.hid hown2; clear hown2 hgrow2 s1 s2; have s1 := ((bcell HG2.out).1 wr.heap.size 0 HWA.out.2.2.2).trans HWA.out.2.1; have HVC := Lib.hid (HVA.out.bel HG2.out))
                      | (at_builtin; refine row_append_n Try.underlying30 his hzs hss hbs (by decide) rfl HN0.out (news := (strs L).take k) (sg := g) (so := 0) (m := k) HTK.out (row_take HV0.out.read_ k) take_one (n := k) (Nat.zero_add k) HK5.out (by simp) rfl _ _ rfl rfl rfl ?_; intro g1 cp1 w1 hown1 hgrow1; rw [List.nil_append] at hown1; have HG1 := Lib.hid ((below_alloc1 wa (.cells #[] 9)).grown hgrow1 (by simp) (fun k hk => (HN0.out.in_ k hk).1)); have HO1 := Lib.hid hown1; clear hown1 hgrow1; have s1 := ((bcell HG1.out).1 wr.heap.size 0 HWA.out.2.2.2).trans HWA.out.2.1; have s2 := ((bcell HG1.out).1 wr.heap.size 1 HWA.out.2.2.2).trans HWA.out.2.2.1; have HO1b := Lib.hid (HO1.out.bel (below_alloc1 w1 (.cells #[.string nm] 9)))))
                    go_roundw
                    case rel =>
                      refine ⟨j + 1, by omega, by go_num, ?_, ?_, hB4⟩
                      · rw [HNEXT.out, strs_next _ _ _ HA.out HIN.out, HINB.out]
                        have hd : (strs L).drop (k + 1) = [] := List.drop_eq_nil_of_le (by rw [strs_len]; omega)
                        simpa [putB, hd] using hO4
                      · rw [HTOLD.out, HINB.out]
                        exact hown4
                    case measure => simp [intOf]; omega
                · have hcz : cp ≠ k + 1 := by omega
                  obtain ⟨N, hN⟩ : ∃ N, (k + 1) + (L.length - (k + 1)) = N := ⟨_, rfl⟩
                  have HNN := Lib.hid hN
                  have hN1 : N ≤ 1000 := by omega
                  clear hN
                  go_wp2_with (first
                    | (at_builtin; refine row_append_n Try.underlying29 hib hzb hsb hbb (by decide) rfl HT3.out (news := [.bool true]) (m := 1) rfl (news1 w3 _ 4) (by simp [Value.oneCell']) (n := (bits (upTo l j).1).length + 1) rfl HLN.out HB3b.out.size rfl _ _ rfl rfl rfl ?_; intro g4 cp4 w4 hown4 hgrow4; have hB4 := HB3b.out.grown hgrow4 HB3b.out.size (fun k hk => (HT3.out.in_ k hk).1); have hO4 := HO3b.out.kept hgrow4 (HO3b.out.apart HT3.out (by decide)))
                    | (at_builtin; refine row_append_n Try.underlying30 his hzs hss hbs (by decide) rfl HO2.out (news := (strs L).drop (k + 1)) (sg := g) (so := k + 1) (m := L.length - (k + 1)) (drop_len L (k + 1)) (row_drop HVC.out.read_ (k + 1)) drop_one (n := N) (by rw [← HNN.out]; have := HTK.out; simp [strs_len]; omega) (by omega) (HG2.out.size) rfl _ _ rfl rfl rfl ?_; intro g3 cp3 w3 hown3 hgrow3; have HG3 := Lib.hid (HG2.out.grown hgrow3 HG2.out.size (fun k hk => (HO2.out.in_ k hk).1)); have HO3 := Lib.hid hown3; clear hown3 hgrow3 s1; have s1 := ((bcell HG3.out).1 wr.heap.size 0 HWA.out.2.2.2).trans HWA.out.2.1; have HT3 := Lib.hid ((HTA.out.bel HG3.out).bel (below_alloc1 w3 (.cells #[.bool true] 4))); have HO3b := Lib.hid ((HO3.out.bel (below_alloc1 w3 (.cells #[.bool true] 4))).mono (Nat.le_trans HB.out.size HWA.out.1.size)); have HB3 := Lib.hid (HBA.out.trans (HG3.out.mono (HBA.out.size))); have HB3b := Lib.hid (HB3.out.alloc HB3.out.size (.cells #[.bool true] 4)))
                    | (at_builtin; refine row_append_n Try.underlying30 his hzs hss hbs (by decide) rfl HO1b.out (news := [.string nm]) (m := 1) rfl (news1 w1 _ 9) (by simp [Value.oneCell']) (n := k + 1) HTK1.out HK6.out (by have := HG1.out.size; simp; omega) rfl _ _ rfl rfl rfl ?_; intro g2 cp2 w2 hown2 hgrow2; have HG2 := Lib.hid ((HG1.out.alloc HG1.out.size (.cells #[.string nm] 9)).grown hgrow2 (by have := HG1.out.size; simp; omega) (fun k hk => (HO1b.out.in_ k hk).1)); have HO2 := Lib.hid hown2; clear hown2 hgrow2 s1 s2; have s1 := ((bcell HG2.out).1 wr.heap.size 0 HWA.out.2.2.2).trans HWA.out.2.1; have HVC := Lib.hid (HVA.out.bel HG2.out))
                    | (at_builtin; refine row_append_n Try.underlying30 his hzs hss hbs (by decide) rfl HN0.out (news := (strs L).take k) (sg := g) (so := 0) (m := k) HTK.out (row_take HV0.out.read_ k) take_one (n := k) (Nat.zero_add k) HK5.out (by simp) rfl _ _ rfl rfl rfl ?_; intro g1 cp1 w1 hown1 hgrow1; rw [List.nil_append] at hown1; have HG1 := Lib.hid ((below_alloc1 wa (.cells #[] 9)).grown hgrow1 (by simp) (fun k hk => (HN0.out.in_ k hk).1)); have HO1 := Lib.hid hown1; clear hown1 hgrow1; have s1 := ((bcell HG1.out).1 wr.heap.size 0 HWA.out.2.2.2).trans HWA.out.2.1; have s2 := ((bcell HG1.out).1 wr.heap.size 1 HWA.out.2.2.2).trans HWA.out.2.2.1; have HO1b := Lib.hid (HO1.out.bel (below_alloc1 w1 (.cells #[.string nm] 9)))))
                  go_roundw
                  case rel =>
                    refine ⟨j + 1, by omega, by go_num, ?_, ?_, hB4⟩
                    · rw [HNEXT.out, strs_next _ _ _ HA.out HIN.out, HINB.out]
                      simpa [putB] using hO4
                    · rw [HTOLD.out, HINB.out]
                      exact hown4
                  case measure => simp [intOf]; omega
              --END T
            · have dx : (x == nm.toList) = false := by rw [ByteArray.toList_eq]; exact beq_eq_false_iff_ne.2 hxe
              have HIN := Lib.hid (show (L[k]? = some nm.data.toList) = False from eq_false (by rw [hx]; simpa using hxe))
              have HINB := Lib.hid (show decide (nm.data.toList ∈ L) = false from decide_eq_false (fun h => of_eq_false HIN.out (HA.out ▸ HMEM.out.1 h)))
              clear hx hxe hnl
              --BEGIN F
              rcases hcases with rfl | rfl | rfl
              ·
                clear k0' k2'
                go_wp2_with fail
                go_quiet (fail)
                go_wp2
                go_quiet (fail)
                generalize hW : World.drewN _ _ = wa
                have HWA := Lib.hid (show SBox 0 nm wr wa by subst hW; (repeat (first | exact sbox_alloc _ _ _ | refine sbox_drewN ?_ _)))
                clear hW c0 c1 c2
                have HVA := Lib.hid (HV.out.bel HWA.out.1)
                have HTA := Lib.hid (HT.out.bel HWA.out.1)
                have HBA := Lib.hid (HB.out.trans (HWA.out.1.mono HB.out.size))
                have HN0 := Lib.hid (OwnR.empty (base := wa.heap.size) (t := 9) (Nat.le_refl _) (heap_alloc_new wa (.cells #[] 9)))
                have HV0 := Lib.hid (HVA.out.bel (below_alloc1 wa (.cells #[] 9)))
                · have hcz : cp ≠ k := by omega
                  obtain ⟨N, hN⟩ : ∃ N, (k + 1) + (L.length - (k)) = N := ⟨_, rfl⟩
                  have HNN := Lib.hid hN
                  have hN1 : N ≤ 1000 := by omega
                  clear hN
                  go_wp2_with (first
                    | (at_builtin; refine row_append_n Try.underlying29 hib hzb hsb hbb (by decide) rfl HT3.out (news := [.bool true]) (m := 1) rfl (news1 w3 _ 4) (by simp [Value.oneCell']) (n := (bits (upTo l j).1).length + 1) rfl HLN.out HB3b.out.size rfl _ _ rfl rfl rfl ?_; intro g4 cp4 w4 hown4 hgrow4; have hB4 := HB3b.out.grown hgrow4 HB3b.out.size (fun k hk => (HT3.out.in_ k hk).1); have hO4 := HO3b.out.kept hgrow4 (HO3b.out.apart HT3.out (by decide)))
                    | (at_builtin; refine row_append_n Try.underlying30 his hzs hss hbs (by decide) rfl HO2.out (news := (strs L).drop (k)) (sg := g) (so := k) (m := L.length - (k)) (drop_len L (k)) (row_drop HVC.out.read_ (k)) drop_one (n := N) (by rw [← HNN.out]; have := HTK.out; simp [strs_len]; omega) (by omega) (HG2.out.size) rfl _ _ rfl rfl rfl ?_; intro g3 cp3 w3 hown3 hgrow3; have HG3 := Lib.hid (HG2.out.grown hgrow3 HG2.out.size (fun k hk => (HO2.out.in_ k hk).1)); have HO3 := Lib.hid hown3; clear hown3 hgrow3 s1; have s1 := ((bcell HG3.out).1 wr.heap.size 0 HWA.out.2.2.2).trans HWA.out.2.1; have HT3 := Lib.hid ((HTA.out.bel HG3.out).bel (below_alloc1 w3 (.cells #[.bool true] 4))); have HO3b := Lib.hid ((HO3.out.bel (below_alloc1 w3 (.cells #[.bool true] 4))).mono (Nat.le_trans HB.out.size HWA.out.1.size)); have HB3 := Lib.hid (HBA.out.trans (HG3.out.mono (HBA.out.size))); have HB3b := Lib.hid (HB3.out.alloc HB3.out.size (.cells #[.bool true] 4)))
                    | (at_builtin; refine row_append_n Try.underlying30 his hzs hss hbs (by decide) rfl HO1b.out (news := [.string nm]) (m := 1) rfl (news1 w1 _ 9) (by simp [Value.oneCell']) (n := k + 1) HTK1.out HK6.out (by have := HG1.out.size; simp; omega) rfl _ _ rfl rfl rfl ?_; intro g2 cp2 w2 hown2 hgrow2; have HG2 := Lib.hid ((HG1.out.alloc HG1.out.size (.cells #[.string nm] 9)).grown hgrow2 (by have := HG1.out.size; simp; omega) (fun k hk => (HO1b.out.in_ k hk).1)); have HO2 := Lib.hid hown2; clear hown2 hgrow2 s1 s2; have s1 := ((bcell HG2.out).1 wr.heap.size 0 HWA.out.2.2.2).trans HWA.out.2.1; have HVC := Lib.hid (HVA.out.bel HG2.out))
                    | (at_builtin; refine row_append_n Try.underlying30 his hzs hss hbs (by decide) rfl HN0.out (news := (strs L).take k) (sg := g) (so := 0) (m := k) HTK.out (row_take HV0.out.read_ k) take_one (n := k) (Nat.zero_add k) HK5.out (by simp) rfl _ _ rfl rfl rfl ?_; intro g1 cp1 w1 hown1 hgrow1; rw [List.nil_append] at hown1; have HG1 := Lib.hid ((below_alloc1 wa (.cells #[] 9)).grown hgrow1 (by simp) (fun k hk => (HN0.out.in_ k hk).1)); have HO1 := Lib.hid hown1; clear hown1 hgrow1; have s1 := ((bcell HG1.out).1 wr.heap.size 0 HWA.out.2.2.2).trans HWA.out.2.1; have s2 := ((bcell HG1.out).1 wr.heap.size 1 HWA.out.2.2.2).trans HWA.out.2.2.1; have HO1b := Lib.hid (HO1.out.bel (below_alloc1 w1 (.cells #[.string nm] 9)))))
                  go_roundw
                  case rel =>
                    refine ⟨j + 1, by omega, by go_num, ?_, ?_, hB4⟩
                    · rw [HNEXT.out, strs_next _ _ _ HA.out HIN.out, HINB.out]
                      simpa [putB] using hO4
                    · rw [HTOLD.out, HINB.out]
                      exact hown4
                  case measure => simp [intOf]; omega
              ·
                clear k0' k2'
                go_wp2_with fail
                go_quiet (fail)
                go_wp2
                go_quiet (fail)
                generalize hW : World.drewN _ _ = wa
                have HWA := Lib.hid (show SBox 1 nm wr wa by subst hW; (repeat (first | exact sbox_alloc _ _ _ | refine sbox_drewN ?_ _)))
                clear hW c0 c1 c2
                have HVA := Lib.hid (HV.out.bel HWA.out.1)
                have HTA := Lib.hid (HT.out.bel HWA.out.1)
                have HBA := Lib.hid (HB.out.trans (HWA.out.1.mono HB.out.size))
                have HN0 := Lib.hid (OwnR.empty (base := wa.heap.size) (t := 9) (Nat.le_refl _) (heap_alloc_new wa (.cells #[] 9)))
                have HV0 := Lib.hid (HVA.out.bel (below_alloc1 wa (.cells #[] 9)))
                · have hcz : cp ≠ k := by omega
                  obtain ⟨N, hN⟩ : ∃ N, (k) + (L.length - (k)) = N := ⟨_, rfl⟩
                  have HNN := Lib.hid hN
                  have hN1 : N ≤ 1000 := by omega
                  clear hN
                  go_wp2_with (first
                    | (at_builtin; refine row_append_n Try.underlying29 hib hzb hsb hbb (by decide) rfl HT3.out (news := [.bool true]) (m := 1) rfl (news1 w3 _ 4) (by simp [Value.oneCell']) (n := (bits (upTo l j).1).length + 1) rfl HLN.out HB3b.out.size rfl _ _ rfl rfl rfl ?_; intro g4 cp4 w4 hown4 hgrow4; have hB4 := HB3b.out.grown hgrow4 HB3b.out.size (fun k hk => (HT3.out.in_ k hk).1); have hO4 := HO3b.out.kept hgrow4 (HO3b.out.apart HT3.out (by decide)))
                    | (at_builtin; refine row_append_n Try.underlying30 his hzs hss hbs (by decide) rfl HO1.out (news := (strs L).drop (k)) (sg := g) (so := k) (m := L.length - (k)) (drop_len L (k)) (row_drop HVC.out.read_ (k)) drop_one (n := N) (by rw [← HNN.out]; have := HTK.out; simp [strs_len]; omega) (by omega) (HG1.out.size) rfl _ _ rfl rfl rfl ?_; intro g3 cp3 w3 hown3 hgrow3; have HG3 := Lib.hid (HG1.out.grown hgrow3 HG1.out.size (fun k hk => (HO1.out.in_ k hk).1)); have HO3 := Lib.hid hown3; clear hown3 hgrow3 s1; have s1 := ((bcell HG3.out).1 wr.heap.size 0 HWA.out.2.2.2).trans HWA.out.2.1; have HT3 := Lib.hid ((HTA.out.bel HG3.out).bel (below_alloc1 w3 (.cells #[.bool true] 4))); have HO3b := Lib.hid ((HO3.out.bel (below_alloc1 w3 (.cells #[.bool true] 4))).mono (Nat.le_trans HB.out.size HWA.out.1.size)); have HB3 := Lib.hid (HBA.out.trans (HG3.out.mono (HBA.out.size))); have HB3b := Lib.hid (HB3.out.alloc HB3.out.size (.cells #[.bool true] 4)))
                    | (at_builtin; refine row_append_n Try.underlying30 his hzs hss hbs (by decide) rfl HN0.out (news := (strs L).take k) (sg := g) (so := 0) (m := k) HTK.out (row_take HV0.out.read_ k) take_one (n := k) (Nat.zero_add k) HK5.out (by simp) rfl _ _ rfl rfl rfl ?_; intro g1 cp1 w1 hown1 hgrow1; rw [List.nil_append] at hown1; have HG1 := Lib.hid ((below_alloc1 wa (.cells #[] 9)).grown hgrow1 (by simp) (fun k hk => (HN0.out.in_ k hk).1)); have HO1 := Lib.hid hown1; clear hown1 hgrow1; have s1 := ((bcell HG1.out).1 wr.heap.size 0 HWA.out.2.2.2).trans HWA.out.2.1; have s2 := ((bcell HG1.out).1 wr.heap.size 1 HWA.out.2.2.2).trans HWA.out.2.2.1; have HVC := Lib.hid (HVA.out.bel HG1.out)))
                  go_roundw
                  case rel =>
                    refine ⟨j + 1, by omega, by go_num, ?_, ?_, hB4⟩
                    · rw [HNEXT.out, strs_next _ _ _ HA.out HIN.out, HINB.out]
                      simpa [putB] using hO4
                    · rw [HTOLD.out, HINB.out]
                      exact hown4
                  case measure => simp [intOf]; omega
              ·
                clear k0' k2'
                go_wp2_with fail
                go_quiet (fail)
                go_wp2
                go_quiet (fail)
                generalize hW : World.drewN _ _ = wa
                have HWA := Lib.hid (show SBox 2 nm wr wa by subst hW; (repeat (first | exact sbox_alloc _ _ _ | refine sbox_drewN ?_ _)))
                clear hW c0 c1 c2
                have HVA := Lib.hid (HV.out.bel HWA.out.1)
                have HTA := Lib.hid (HT.out.bel HWA.out.1)
                have HBA := Lib.hid (HB.out.trans (HWA.out.1.mono HB.out.size))
                have HN0 := Lib.hid (OwnR.empty (base := wa.heap.size) (t := 9) (Nat.le_refl _) (heap_alloc_new wa (.cells #[] 9)))
                have HV0 := Lib.hid (HVA.out.bel (below_alloc1 wa (.cells #[] 9)))
                · have hcz : cp ≠ k := by omega
                  obtain ⟨N, hN⟩ : ∃ N, (k) + (L.length - (k)) = N := ⟨_, rfl⟩
                  have HNN := Lib.hid hN
                  have hN1 : N ≤ 1000 := by omega
                  clear hN
                  go_wp2_with (first
                    | (at_builtin; refine row_append_n Try.underlying29 hib hzb hsb hbb (by decide) rfl HT3.out (news := [.bool false]) (m := 1) rfl (news1 w3 _ 4) (by simp [Value.oneCell']) (n := (bits (upTo l j).1).length + 1) rfl HLN.out HB3b.out.size rfl _ _ rfl rfl rfl ?_; intro g4 cp4 w4 hown4 hgrow4; have hB4 := HB3b.out.grown hgrow4 HB3b.out.size (fun k hk => (HT3.out.in_ k hk).1); have hO4 := HO3b.out.kept hgrow4 (HO3b.out.apart HT3.out (by decide)))
                    | (at_builtin; refine row_append_n Try.underlying30 his hzs hss hbs (by decide) rfl HO1.out (news := (strs L).drop (k)) (sg := g) (so := k) (m := L.length - (k)) (drop_len L (k)) (row_drop HVC.out.read_ (k)) drop_one (n := N) (by rw [← HNN.out]; have := HTK.out; simp [strs_len]; omega) (by omega) (HG1.out.size) rfl _ _ rfl rfl rfl ?_; intro g3 cp3 w3 hown3 hgrow3; have HG3 := Lib.hid (HG1.out.grown hgrow3 HG1.out.size (fun k hk => (HO1.out.in_ k hk).1)); have HO3 := Lib.hid hown3; clear hown3 hgrow3 s1; have s1 := ((bcell HG3.out).1 wr.heap.size 0 HWA.out.2.2.2).trans HWA.out.2.1; have HT3 := Lib.hid ((HTA.out.bel HG3.out).bel (below_alloc1 w3 (.cells #[.bool false] 4))); have HO3b := Lib.hid ((HO3.out.bel (below_alloc1 w3 (.cells #[.bool false] 4))).mono (Nat.le_trans HB.out.size HWA.out.1.size)); have HB3 := Lib.hid (HBA.out.trans (HG3.out.mono (HBA.out.size))); have HB3b := Lib.hid (HB3.out.alloc HB3.out.size (.cells #[.bool false] 4)))
                    | (at_builtin; refine row_append_n Try.underlying30 his hzs hss hbs (by decide) rfl HN0.out (news := (strs L).take k) (sg := g) (so := 0) (m := k) HTK.out (row_take HV0.out.read_ k) take_one (n := k) (Nat.zero_add k) HK5.out (by simp) rfl _ _ rfl rfl rfl ?_; intro g1 cp1 w1 hown1 hgrow1; rw [List.nil_append] at hown1; have HG1 := Lib.hid ((below_alloc1 wa (.cells #[] 9)).grown hgrow1 (by simp) (fun k hk => (HN0.out.in_ k hk).1)); have HO1 := Lib.hid hown1; clear hown1 hgrow1; have s1 := ((bcell HG1.out).1 wr.heap.size 0 HWA.out.2.2.2).trans HWA.out.2.1; have s2 := ((bcell HG1.out).1 wr.heap.size 1 HWA.out.2.2.2).trans HWA.out.2.2.1; have HVC := Lib.hid (HVA.out.bel HG1.out)))
                  go_roundw
                  case rel =>
                    refine ⟨j + 1, by omega, by go_num, ?_, ?_, hB4⟩
                    · rw [HNEXT.out, strs_next _ _ _ HA.out HIN.out, HINB.out]
                      simpa [putB] using hO4
                    · rw [HTOLD.out, HINB.out]
                      exact hown4
                  case measure => simp [intOf]; omega
              --END F
          · have hke : L.length = k := by omega
            have hkI : ¬ (k : Int) < (L.length : Int) := by omega
            have HIN := Lib.hid (show (L[k]? = some nm.data.toList) = False from eq_false (by rw [List.getElem?_eq_none (by omega)]; simp))
            have HINB := Lib.hid (show decide (nm.data.toList ∈ L) = false from decide_eq_false (fun h => of_eq_false HIN.out (HA.out ▸ HMEM.out.1 h)))
            --BEGIN E
            rcases hcases with rfl | rfl | rfl
            ·
              clear k0' k2'
              go_wp2_with fail
              go_quiet (fail)
              go_wp2
              go_quiet (fail)
              generalize hW : World.drewN _ _ = wa
              have HWA := Lib.hid (show SBox 0 nm wr wa by subst hW; (repeat (first | exact sbox_alloc _ _ _ | refine sbox_drewN ?_ _)))
              clear hW c0 c1
              have HVA := Lib.hid (HV.out.bel HWA.out.1)
              have HTA := Lib.hid (HT.out.bel HWA.out.1)
              have HBA := Lib.hid (HB.out.trans (HWA.out.1.mono HB.out.size))
              have HN0 := Lib.hid (OwnR.empty (base := wa.heap.size) (t := 9) (Nat.le_refl _) (heap_alloc_new wa (.cells #[] 9)))
              have HV0 := Lib.hid (HVA.out.bel (below_alloc1 wa (.cells #[] 9)))
              have hcc : cp = k ∨ cp ≠ k := by omega
              rcases hcc with hcz | hcz
              ·
                have hz := hcz.symm
                subst hz
                clear hcz
                go_wp2_with (first
                  | (at_builtin; refine row_append_n Try.underlying29 hib hzb hsb hbb (by decide) rfl HT3.out (news := [.bool true]) (m := 1) rfl (news1 w3 _ 4) (by simp [Value.oneCell']) (n := (bits (upTo l j).1).length + 1) rfl HLN.out HB3b.out.size rfl _ _ rfl rfl rfl ?_; intro g4 cp4 w4 hown4 hgrow4; have hB4 := HB3b.out.grown hgrow4 HB3b.out.size (fun k hk => (HT3.out.in_ k hk).1); have hO4 := HO3b.out.kept hgrow4 (HO3b.out.apart HT3.out (by decide)))
                  | (at_builtin; refine row_append_n Try.underlying30 his hzs hss hbs (by decide) rfl HO2.out (news := []) (sg := g) (so := _) (m := _) (by simp <;> omega) (by intro j u h; cases h) (by intro u h; cases h) (n := k + 1) (by have := HTK.out; simp [strs_len] <;> omega) (by omega) (HG2.out.size) rfl _ _ rfl rfl rfl ?_; intro g3 cp3 w3 hown3 hgrow3; have HG3 := Lib.hid (HG2.out.grown hgrow3 HG2.out.size (fun k hk => (HO2.out.in_ k hk).1)); have HG3 := Lib.hid (HG2.out.grown hgrow3 HG2.out.size (fun k hk => (HO2.out.in_ k hk).1)); have HO3 := Lib.hid hown3; clear hown3 hgrow3 s1; have s1 := ((bcell HG3.out).1 wr.heap.size 0 HWA.out.2.2.2).trans HWA.out.2.1; have HT3 := Lib.hid ((HTA.out.bel HG3.out).bel (below_alloc1 w3 (.cells #[.bool true] 4))); have HO3b := Lib.hid ((HO3.out.bel (below_alloc1 w3 (.cells #[.bool true] 4))).mono (Nat.le_trans HB.out.size HWA.out.1.size)); have HB3 := Lib.hid (HBA.out.trans (HG3.out.mono (HBA.out.size))); have HB3b := Lib.hid (HB3.out.alloc HB3.out.size (.cells #[.bool true] 4)))
                  | (at_builtin; refine row_append_n Try.underlying30 his hzs hss hbs (by decide) rfl HO1b.out (news := [.string nm]) (m := 1) rfl (news1 w1 _ 9) (by simp [Value.oneCell']) (n := k + 1) HTK1.out HK6.out (by have := HG1.out.size; simp; omega) rfl _ _ rfl rfl rfl ?_; intro g2 cp2 w2 hown2 hgrow2; have HG2 := Lib.hid ((HG1.out.alloc HG1.out.size (.cells #[.string nm] 9)).grown hgrow2 (by have := HG1.out.size; simp; omega) (fun k hk => (HO1b.out.in_ k hk).1)); have HO2 := Lib.hid hown2; clear hown2 hgrow2 s1 s2; have s1 := ((bcell HG2.out).1 wr.heap.size 0 HWA.out.2.2.2).trans HWA.out.2.1; have HVC := Lib.hid (HVA.out.bel HG2.out))
                  | (at_builtin; refine row_append_n Try.underlying30 his hzs hss hbs (by decide) rfl HN0.out (news := (strs L).take k) (sg := g) (so := 0) (m := k) HTK.out (row_take HV0.out.read_ k) take_one (n := k) (Nat.zero_add k) HK5.out (by simp) rfl _ _ rfl rfl rfl ?_; intro g1 cp1 w1 hown1 hgrow1; rw [List.nil_append] at hown1; have HG1 := Lib.hid ((below_alloc1 wa (.cells #[] 9)).grown hgrow1 (by simp) (fun k hk => (HN0.out.in_ k hk).1)); have HO1 := Lib.hid hown1; clear hown1 hgrow1; have s1 := ((bcell HG1.out).1 wr.heap.size 0 HWA.out.2.2.2).trans HWA.out.2.1; have s2 := ((bcell HG1.out).1 wr.heap.size 1 HWA.out.2.2.2).trans HWA.out.2.2.1; have HO1b := Lib.hid (HO1.out.bel (below_alloc1 w1 (.cells #[.string nm] 9)))))
                go_roundw
                case rel =>
                  refine ⟨j + 1, by omega, by go_num, ?_, ?_, hB4⟩
                  · rw [HNEXT.out, strs_next _ _ _ HA.out HIN.out, HINB.out]
                    have hd : (strs L).drop (k) = [] := List.drop_eq_nil_of_le (by rw [strs_len]; omega)
                    simpa [putB, hd] using hO4
                  · rw [HTOLD.out, HINB.out]
                    exact hown4
                case measure => simp [intOf]; omega
              ·
                go_wp2_with (first
                  | (at_builtin; refine row_append_n Try.underlying29 hib hzb hsb hbb (by decide) rfl HT3.out (news := [.bool true]) (m := 1) rfl (news1 w3 _ 4) (by simp [Value.oneCell']) (n := (bits (upTo l j).1).length + 1) rfl HLN.out HB3b.out.size rfl _ _ rfl rfl rfl ?_; intro g4 cp4 w4 hown4 hgrow4; have hB4 := HB3b.out.grown hgrow4 HB3b.out.size (fun k hk => (HT3.out.in_ k hk).1); have hO4 := HO3b.out.kept hgrow4 (HO3b.out.apart HT3.out (by decide)))
                  | (at_builtin; refine row_append_n Try.underlying30 his hzs hss hbs (by decide) rfl HO2.out (news := []) (sg := g) (so := _) (m := _) (by simp <;> omega) (by intro j u h; cases h) (by intro u h; cases h) (n := k + 1) (by have := HTK.out; simp [strs_len] <;> omega) (by omega) (HG2.out.size) rfl _ _ rfl rfl rfl ?_; intro g3 cp3 w3 hown3 hgrow3; have HG3 := Lib.hid (HG2.out.grown hgrow3 HG2.out.size (fun k hk => (HO2.out.in_ k hk).1)); have HG3 := Lib.hid (HG2.out.grown hgrow3 HG2.out.size (fun k hk => (HO2.out.in_ k hk).1)); have HO3 := Lib.hid hown3; clear hown3 hgrow3 s1; have s1 := ((bcell HG3.out).1 wr.heap.size 0 HWA.out.2.2.2).trans HWA.out.2.1; have HT3 := Lib.hid ((HTA.out.bel HG3.out).bel (below_alloc1 w3 (.cells #[.bool true] 4))); have HO3b := Lib.hid ((HO3.out.bel (below_alloc1 w3 (.cells #[.bool true] 4))).mono (Nat.le_trans HB.out.size HWA.out.1.size)); have HB3 := Lib.hid (HBA.out.trans (HG3.out.mono (HBA.out.size))); have HB3b := Lib.hid (HB3.out.alloc HB3.out.size (.cells #[.bool true] 4)))
                  | (at_builtin; refine row_append_n Try.underlying30 his hzs hss hbs (by decide) rfl HO1b.out (news := [.string nm]) (m := 1) rfl (news1 w1 _ 9) (by simp [Value.oneCell']) (n := k + 1) HTK1.out HK6.out (by have := HG1.out.size; simp; omega) rfl _ _ rfl rfl rfl ?_; intro g2 cp2 w2 hown2 hgrow2; have HG2 := Lib.hid ((HG1.out.alloc HG1.out.size (.cells #[.string nm] 9)).grown hgrow2 (by have := HG1.out.size; simp; omega) (fun k hk => (HO1b.out.in_ k hk).1)); have HO2 := Lib.hid hown2; clear hown2 hgrow2 s1 s2; have s1 := ((bcell HG2.out).1 wr.heap.size 0 HWA.out.2.2.2).trans HWA.out.2.1; have HVC := Lib.hid (HVA.out.bel HG2.out))
                  | (at_builtin; refine row_append_n Try.underlying30 his hzs hss hbs (by decide) rfl HN0.out (news := (strs L).take k) (sg := g) (so := 0) (m := k) HTK.out (row_take HV0.out.read_ k) take_one (n := k) (Nat.zero_add k) HK5.out (by simp) rfl _ _ rfl rfl rfl ?_; intro g1 cp1 w1 hown1 hgrow1; rw [List.nil_append] at hown1; have HG1 := Lib.hid ((below_alloc1 wa (.cells #[] 9)).grown hgrow1 (by simp) (fun k hk => (HN0.out.in_ k hk).1)); have HO1 := Lib.hid hown1; clear hown1 hgrow1; have s1 := ((bcell HG1.out).1 wr.heap.size 0 HWA.out.2.2.2).trans HWA.out.2.1; have s2 := ((bcell HG1.out).1 wr.heap.size 1 HWA.out.2.2.2).trans HWA.out.2.2.1; have HO1b := Lib.hid (HO1.out.bel (below_alloc1 w1 (.cells #[.string nm] 9)))))
                go_roundw
                case rel =>
                  refine ⟨j + 1, by omega, by go_num, ?_, ?_, hB4⟩
                  · rw [HNEXT.out, strs_next _ _ _ HA.out HIN.out, HINB.out]
                    have hd : (strs L).drop (k) = [] := List.drop_eq_nil_of_le (by rw [strs_len]; omega)
                    simpa [putB, hd] using hO4
                  · rw [HTOLD.out, HINB.out]
                    exact hown4
                case measure => simp [intOf]; omega
            ·
              clear k0' k2'
              go_wp2_with fail
              go_quiet (fail)
              go_wp2
              go_quiet (fail)
              generalize hW : World.drewN _ _ = wa
              have HWA := Lib.hid (show SBox 1 nm wr wa by subst hW; (repeat (first | exact sbox_alloc _ _ _ | refine sbox_drewN ?_ _)))
              clear hW c0 c1
              have HVA := Lib.hid (HV.out.bel HWA.out.1)
              have HTA := Lib.hid (HT.out.bel HWA.out.1)
              have HBA := Lib.hid (HB.out.trans (HWA.out.1.mono HB.out.size))
              have HN0 := Lib.hid (OwnR.empty (base := wa.heap.size) (t := 9) (Nat.le_refl _) (heap_alloc_new wa (.cells #[] 9)))
              have HV0 := Lib.hid (HVA.out.bel (below_alloc1 wa (.cells #[] 9)))
              have hcc : cp = k ∨ cp ≠ k := by omega
              rcases hcc with hcz | hcz
              ·
                have hz := hcz.symm
                subst hz
                clear hcz
                go_wp2_with (first
                  | (at_builtin; refine row_append_n Try.underlying29 hib hzb hsb hbb (by decide) rfl HT3.out (news := [.bool true]) (m := 1) rfl (news1 w3 _ 4) (by simp [Value.oneCell']) (n := (bits (upTo l j).1).length + 1) rfl HLN.out HB3b.out.size rfl _ _ rfl rfl rfl ?_; intro g4 cp4 w4 hown4 hgrow4; have hB4 := HB3b.out.grown hgrow4 HB3b.out.size (fun k hk => (HT3.out.in_ k hk).1); have hO4 := HO3b.out.kept hgrow4 (HO3b.out.apart HT3.out (by decide)))
                  | (at_builtin; refine row_append_n Try.underlying30 his hzs hss hbs (by decide) rfl HO1.out (news := []) (sg := g) (so := _) (m := _) (by simp <;> omega) (by intro j u h; cases h) (by intro u h; cases h) (n := k) (by have := HTK.out; simp [strs_len] <;> omega) (by omega) (HG1.out.size) rfl _ _ rfl rfl rfl ?_; intro g3 cp3 w3 hown3 hgrow3; have HG3 := Lib.hid (HG1.out.grown hgrow3 HG1.out.size (fun k hk => (HO1.out.in_ k hk).1)); have HG3 := Lib.hid (HG1.out.grown hgrow3 HG1.out.size (fun k hk => (HO1.out.in_ k hk).1)); have HO3 := Lib.hid hown3; clear hown3 hgrow3 s1; have s1 := ((bcell HG3.out).1 wr.heap.size 0 HWA.out.2.2.2).trans HWA.out.2.1; have HT3 := Lib.hid ((HTA.out.bel HG3.out).bel (below_alloc1 w3 (.cells #[.bool true] 4))); have HO3b := Lib.hid ((HO3.out.bel (below_alloc1 w3 (.cells #[.bool true] 4))).mono (Nat.le_trans HB.out.size HWA.out.1.size)); have HB3 := Lib.hid (HBA.out.trans (HG3.out.mono (HBA.out.size))); have HB3b := Lib.hid (HB3.out.alloc HB3.out.size (.cells #[.bool true] 4)))
                  | (at_builtin; refine row_append_n Try.underlying30 his hzs hss hbs (by decide) rfl HN0.out (news := (strs L).take k) (sg := g) (so := 0) (m := k) HTK.out (row_take HV0.out.read_ k) take_one (n := k) (Nat.zero_add k) HK5.out (by simp) rfl _ _ rfl rfl rfl ?_; intro g1 cp1 w1 hown1 hgrow1; rw [List.nil_append] at hown1; have HG1 := Lib.hid ((below_alloc1 wa (.cells #[] 9)).grown hgrow1 (by simp) (fun k hk => (HN0.out.in_ k hk).1)); have HO1 := Lib.hid hown1; clear hown1 hgrow1; have s1 := ((bcell HG1.out).1 wr.heap.size 0 HWA.out.2.2.2).trans HWA.out.2.1; have s2 := ((bcell HG1.out).1 wr.heap.size 1 HWA.out.2.2.2).trans HWA.out.2.2.1; have HVC := Lib.hid (HVA.out.bel HG1.out)))
                go_roundw
                case rel =>
                  refine ⟨j + 1, by omega, by go_num, ?_, ?_, hB4⟩
                  · rw [HNEXT.out, strs_next _ _ _ HA.out HIN.out, HINB.out]
                    have hd : (strs L).drop (k) = [] := List.drop_eq_nil_of_le (by rw [strs_len]; omega)
                    simpa [putB, hd] using hO4
                  · rw [HTOLD.out, HINB.out]
                    exact hown4
                case measure => simp [intOf]; omega
              ·
                go_wp2_with (first
                  | (at_builtin; refine row_append_n Try.underlying29 hib hzb hsb hbb (by decide) rfl HT3.out (news := [.bool true]) (m := 1) rfl (news1 w3 _ 4) (by simp [Value.oneCell']) (n := (bits (upTo l j).1).length + 1) rfl HLN.out HB3b.out.size rfl _ _ rfl rfl rfl ?_; intro g4 cp4 w4 hown4 hgrow4; have hB4 := HB3b.out.grown hgrow4 HB3b.out.size (fun k hk => (HT3.out.in_ k hk).1); have hO4 := HO3b.out.kept hgrow4 (HO3b.out.apart HT3.out (by decide)))
                  | (at_builtin; refine row_append_n Try.underlying30 his hzs hss hbs (by decide) rfl HO1.out (news := []) (sg := g) (so := _) (m := _) (by simp <;> omega) (by intro j u h; cases h) (by intro u h; cases h) (n := k) (by have := HTK.out; simp [strs_len] <;> omega) (by omega) (HG1.out.size) rfl _ _ rfl rfl rfl ?_; intro g3 cp3 w3 hown3 hgrow3; have HG3 := Lib.hid (HG1.out.grown hgrow3 HG1.out.size (fun k hk => (HO1.out.in_ k hk).1)); have HG3 := Lib.hid (HG1.out.grown hgrow3 HG1.out.size (fun k hk => (HO1.out.in_ k hk).1)); have HO3 := Lib.hid hown3; clear hown3 hgrow3 s1; have s1 := ((bcell HG3.out).1 wr.heap.size 0 HWA.out.2.2.2).trans HWA.out.2.1; have HT3 := Lib.hid ((HTA.out.bel HG3.out).bel (below_alloc1 w3 (.cells #[.bool true] 4))); have HO3b := Lib.hid ((HO3.out.bel (below_alloc1 w3 (.cells #[.bool true] 4))).mono (Nat.le_trans HB.out.size HWA.out.1.size)); have HB3 := Lib.hid (HBA.out.trans (HG3.out.mono (HBA.out.size))); have HB3b := Lib.hid (HB3.out.alloc HB3.out.size (.cells #[.bool true] 4)))
                  | (at_builtin; refine row_append_n Try.underlying30 his hzs hss hbs (by decide) rfl HN0.out (news := (strs L).take k) (sg := g) (so := 0) (m := k) HTK.out (row_take HV0.out.read_ k) take_one (n := k) (Nat.zero_add k) HK5.out (by simp) rfl _ _ rfl rfl rfl ?_; intro g1 cp1 w1 hown1 hgrow1; rw [List.nil_append] at hown1; have HG1 := Lib.hid ((below_alloc1 wa (.cells #[] 9)).grown hgrow1 (by simp) (fun k hk => (HN0.out.in_ k hk).1)); have HO1 := Lib.hid hown1; clear hown1 hgrow1; have s1 := ((bcell HG1.out).1 wr.heap.size 0 HWA.out.2.2.2).trans HWA.out.2.1; have s2 := ((bcell HG1.out).1 wr.heap.size 1 HWA.out.2.2.2).trans HWA.out.2.2.1; have HVC := Lib.hid (HVA.out.bel HG1.out)))
                go_roundw
                case rel =>
                  refine ⟨j + 1, by omega, by go_num, ?_, ?_, hB4⟩
                  · rw [HNEXT.out, strs_next _ _ _ HA.out HIN.out, HINB.out]
                    have hd : (strs L).drop (k) = [] := List.drop_eq_nil_of_le (by rw [strs_len]; omega)
                    simpa [putB, hd] using hO4
                  · rw [HTOLD.out, HINB.out]
                    exact hown4
                case measure => simp [intOf]; omega
            ·
              clear k0' k2'
              go_wp2_with fail
              go_quiet (fail)
              go_wp2
              go_quiet (fail)
              generalize hW : World.drewN _ _ = wa
              have HWA := Lib.hid (show SBox 2 nm wr wa by subst hW; (repeat (first | exact sbox_alloc _ _ _ | refine sbox_drewN ?_ _)))
              clear hW c0 c1
              have HVA := Lib.hid (HV.out.bel HWA.out.1)
              have HTA := Lib.hid (HT.out.bel HWA.out.1)
              have HBA := Lib.hid (HB.out.trans (HWA.out.1.mono HB.out.size))
              have HN0 := Lib.hid (OwnR.empty (base := wa.heap.size) (t := 9) (Nat.le_refl _) (heap_alloc_new wa (.cells #[] 9)))
              have HV0 := Lib.hid (HVA.out.bel (below_alloc1 wa (.cells #[] 9)))
              have hcc : cp = k ∨ cp ≠ k := by omega
              rcases hcc with hcz | hcz
              ·
                have hz := hcz.symm
                subst hz
                clear hcz
                go_wp2_with (first
                  | (at_builtin; refine row_append_n Try.underlying29 hib hzb hsb hbb (by decide) rfl HT3.out (news := [.bool false]) (m := 1) rfl (news1 w3 _ 4) (by simp [Value.oneCell']) (n := (bits (upTo l j).1).length + 1) rfl HLN.out HB3b.out.size rfl _ _ rfl rfl rfl ?_; intro g4 cp4 w4 hown4 hgrow4; have hB4 := HB3b.out.grown hgrow4 HB3b.out.size (fun k hk => (HT3.out.in_ k hk).1); have hO4 := HO3b.out.kept hgrow4 (HO3b.out.apart HT3.out (by decide)))
                  | (at_builtin; refine row_append_n Try.underlying30 his hzs hss hbs (by decide) rfl HO1.out (news := []) (sg := g) (so := _) (m := _) (by simp <;> omega) (by intro j u h; cases h) (by intro u h; cases h) (n := k) (by have := HTK.out; simp [strs_len] <;> omega) (by omega) (HG1.out.size) rfl _ _ rfl rfl rfl ?_; intro g3 cp3 w3 hown3 hgrow3; have HG3 := Lib.hid (HG1.out.grown hgrow3 HG1.out.size (fun k hk => (HO1.out.in_ k hk).1)); have HG3 := Lib.hid (HG1.out.grown hgrow3 HG1.out.size (fun k hk => (HO1.out.in_ k hk).1)); have HO3 := Lib.hid hown3; clear hown3 hgrow3 s1; have s1 := ((bcell HG3.out).1 wr.heap.size 0 HWA.out.2.2.2).trans HWA.out.2.1; have HT3 := Lib.hid ((HTA.out.bel HG3.out).bel (below_alloc1 w3 (.cells #[.bool false] 4))); have HO3b := Lib.hid ((HO3.out.bel (below_alloc1 w3 (.cells #[.bool false] 4))).mono (Nat.le_trans HB.out.size HWA.out.1.size)); have HB3 := Lib.hid (HBA.out.trans (HG3.out.mono (HBA.out.size))); have HB3b := Lib.hid (HB3.out.alloc HB3.out.size (.cells #[.bool false] 4)))
                  | (at_builtin; refine row_append_n Try.underlying30 his hzs hss hbs (by decide) rfl HN0.out (news := (strs L).take k) (sg := g) (so := 0) (m := k) HTK.out (row_take HV0.out.read_ k) take_one (n := k) (Nat.zero_add k) HK5.out (by simp) rfl _ _ rfl rfl rfl ?_; intro g1 cp1 w1 hown1 hgrow1; rw [List.nil_append] at hown1; have HG1 := Lib.hid ((below_alloc1 wa (.cells #[] 9)).grown hgrow1 (by simp) (fun k hk => (HN0.out.in_ k hk).1)); have HO1 := Lib.hid hown1; clear hown1 hgrow1; have s1 := ((bcell HG1.out).1 wr.heap.size 0 HWA.out.2.2.2).trans HWA.out.2.1; have s2 := ((bcell HG1.out).1 wr.heap.size 1 HWA.out.2.2.2).trans HWA.out.2.2.1; have HVC := Lib.hid (HVA.out.bel HG1.out)))
                go_roundw
                case rel =>
                  refine ⟨j + 1, by omega, by go_num, ?_, ?_, hB4⟩
                  · rw [HNEXT.out, strs_next _ _ _ HA.out HIN.out, HINB.out]
                    have hd : (strs L).drop (k) = [] := List.drop_eq_nil_of_le (by rw [strs_len]; omega)
                    simpa [putB, hd] using hO4
                  · rw [HTOLD.out, HINB.out]
                    exact hown4
                case measure => simp [intOf]; omega
              ·
                go_wp2_with (first
                  | (at_builtin; refine row_append_n Try.underlying29 hib hzb hsb hbb (by decide) rfl HT3.out (news := [.bool false]) (m := 1) rfl (news1 w3 _ 4) (by simp [Value.oneCell']) (n := (bits (upTo l j).1).length + 1) rfl HLN.out HB3b.out.size rfl _ _ rfl rfl rfl ?_; intro g4 cp4 w4 hown4 hgrow4; have hB4 := HB3b.out.grown hgrow4 HB3b.out.size (fun k hk => (HT3.out.in_ k hk).1); have hO4 := HO3b.out.kept hgrow4 (HO3b.out.apart HT3.out (by decide)))
                  | (at_builtin; refine row_append_n Try.underlying30 his hzs hss hbs (by decide) rfl HO1.out (news := []) (sg := g) (so := _) (m := _) (by simp <;> omega) (by intro j u h; cases h) (by intro u h; cases h) (n := k) (by have := HTK.out; simp [strs_len] <;> omega) (by omega) (HG1.out.size) rfl _ _ rfl rfl rfl ?_; intro g3 cp3 w3 hown3 hgrow3; have HG3 := Lib.hid (HG1.out.grown hgrow3 HG1.out.size (fun k hk => (HO1.out.in_ k hk).1)); have HG3 := Lib.hid (HG1.out.grown hgrow3 HG1.out.size (fun k hk => (HO1.out.in_ k hk).1)); have HO3 := Lib.hid hown3; clear hown3 hgrow3 s1; have s1 := ((bcell HG3.out).1 wr.heap.size 0 HWA.out.2.2.2).trans HWA.out.2.1; have HT3 := Lib.hid ((HTA.out.bel HG3.out).bel (below_alloc1 w3 (.cells #[.bool false] 4))); have HO3b := Lib.hid ((HO3.out.bel (below_alloc1 w3 (.cells #[.bool false] 4))).mono (Nat.le_trans HB.out.size HWA.out.1.size)); have HB3 := Lib.hid (HBA.out.trans (HG3.out.mono (HBA.out.size))); have HB3b := Lib.hid (HB3.out.alloc HB3.out.size (.cells #[.bool false] 4)))
                  | (at_builtin; refine row_append_n Try.underlying30 his hzs hss hbs (by decide) rfl HN0.out (news := (strs L).take k) (sg := g) (so := 0) (m := k) HTK.out (row_take HV0.out.read_ k) take_one (n := k) (Nat.zero_add k) HK5.out (by simp) rfl _ _ rfl rfl rfl ?_; intro g1 cp1 w1 hown1 hgrow1; rw [List.nil_append] at hown1; have HG1 := Lib.hid ((below_alloc1 wa (.cells #[] 9)).grown hgrow1 (by simp) (fun k hk => (HN0.out.in_ k hk).1)); have HO1 := Lib.hid hown1; clear hown1 hgrow1; have s1 := ((bcell HG1.out).1 wr.heap.size 0 HWA.out.2.2.2).trans HWA.out.2.1; have s2 := ((bcell HG1.out).1 wr.heap.size 1 HWA.out.2.2.2).trans HWA.out.2.2.1; have HVC := Lib.hid (HVA.out.bel HG1.out)))
                go_roundw
                case rel =>
                  refine ⟨j + 1, by omega, by go_num, ?_, ?_, hB4⟩
                  · rw [HNEXT.out, strs_next _ _ _ HA.out HIN.out, HINB.out]
                    have hd : (strs L).drop (k) = [] := List.drop_eq_nil_of_le (by rw [strs_len]; omega)
                    simpa [putB, hd] using hO4
                  · rw [HTOLD.out, HINB.out]
                    exact hown4
                case measure => simp [intOf]; omega
            --END E
    · have hje : j = l.length := by omega
      subst hje
      go_wp2
      go_ret2
      exact ⟨⟨_, _, rfl, ht, hv⟩, hB⟩
end Go.Proofs.Ytceepfnjdkfjnaa
