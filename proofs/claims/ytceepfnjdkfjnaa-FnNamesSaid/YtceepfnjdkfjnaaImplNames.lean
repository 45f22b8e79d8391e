/-
  impl.Names: what the steps tell, and the names in order. Conditions: the steps are known ones, not too many.
-/
import Derived.Test.YtceepfnjdkfjnaaSorted
namespace Go.Proofs.Ytceepfnjdkfjnaa
open Go.ChangeShapes Go.WideShapes Go.ChangeAt Go.RowKit Go.Joins Go.Maps

theorem SetIs.same {w : World} {B n : Nat} {l m : List (List UInt8)} (h : SetIs w B n l) (he : ∀ x, x ∈ m ↔ x ∈ l) : SetIs w B n m := by
  obtain ⟨D, hD, hl⟩ := h
  exact ⟨D, hD, fun x => by rw [hl x]; exact decide_eq_decide.2 (he x).symm⟩
theorem news1 (w : World) (v : Value) (t : TypeId) : ∀ j u, [v][j]? = some u → (w.alloc (.cells #[v] t)).cell? ⟨w.heap.size, 0 + j, none⟩ = some u := fun j u h => by
  have := World.news_of_block (heap_alloc_new w (.cells #[v] t)) j u (by simpa using h)
  have hadd : (⟨w.heap.size, 0, none⟩ : Addr).add j = ⟨w.heap.size, 0 + j, none⟩ := by unfold Addr.add; split <;> simp_all
  rwa [hadd] at this
theorem bits_len (bs : List Bool) : (bits bs).length = bs.length := by simp [bits]
theorem strs_len (ls : List (List UInt8)) : (strs ls).length = ls.length := by simp [strs]
theorem told_next {l : List St} {j : Nat} {x : St} (h : l[j]? = some x) : bits (upTo l (j + 1)).1 = bits (upTo l j).1 ++ [.bool (toldB x.1 (decide (x.2.data.toList ∈ (upTo l j).2)))] := by
  rw [upTo_next h]
  simp [doStep, bits]
set_option maxRecDepth 100000 in
set_option maxHeartbeats 2000000 in
theorem implNames_any {w : World} {l : List St} {a : Option Addr} (h : StepsAt w l a) (cap : Nat) (hk : Known l) :
    Calls Try.prog 6 #[.slice a l.length cap] w fun e w' => (∃ v1 v2, e = .returned (.tuple #[v1, v2]) ∧ OwnR 4 w.heap.size w' v1 (bits (upTo l l.length).1) ∧ OwnR 9 w.heap.size w' v2 (strs (upTo l l.length).2)) ∧ Below w.heap.size w w' := by
  obtain ⟨ib, hib, hzb, hsb, hbb⟩ := info_parts infoB
  obtain ⟨is_, his, hzs, hss, hbs⟩ := info_parts infoS
  have H := Lib.hid h; clear h
  have h60 := hk.1
  have HK := Lib.hid hk; clear hk
  go_enter Try.func6, Try.ntmps6
  go_wp2_with fail
  refine (set_new _).mono ?_
  rintro e w1 ⟨rfl, hset1, hb1, hsz1⟩
  have HS1 := Lib.hid hset1; have HB1 := Lib.hid hb1; have HZ1 := Lib.hid hsz1
  clear hset1 hb1 hsz1
  go_wp2
  go_loopw [5, 15] (fun v i wr => ∃ j : Nat, j ≤ l.length ∧ i = .int .i64 j ∧ OwnR 4 (w.heap.size + 1) wr v (bits (upTo l j).1) ∧ SetIs wr w.heap.size j (upTo l j).2 ∧ Below w.heap.size w wr ∧ w.heap.size + 1 ≤ wr.heap.size) (fun _ i _ => l.length - (intOf i).toNat)
  case atStart => exact ⟨0, Nat.zero_le _, rfl, OwnR.empty (by rw [HZ1.out]; exact Nat.le_refl _) (heap_alloc_new w1 _), HS1.out.bel (below_alloc1 _ _), HB1.out.alloc (by have := HZ1.out; omega) _, by have := HZ1.out; simp; omega⟩
  case round =>
    obtain ⟨j, hj, rfl, hO, hS, hB, hZ⟩ := hrel
    have HO := Lib.hid hO; have HS := Lib.hid hS; have HB := Lib.hid hB; have HZ := Lib.hid hZ
    clear hO hS hB hZ
    by_cases hjl : j < l.length
    · obtain ⟨⟨op, nm⟩, hx⟩ : ∃ x, l[j]? = some x := ⟨_, List.getElem?_eq_getElem hjl⟩
      obtain ⟨b, off, rfl, hlt, c0, c1⟩ := (H.out.bel HB.out) j op nm hx
      obtain ⟨k0, k2, kn⟩ := HK.out.2 _ (List.mem_of_getElem? hx)
      have k0' : 0 ≤ op := k0
      have k2' : op ≤ 2 := k2
      have kn' : nm.size ≤ 100 := kn
      have HX := Lib.hid hx
      have HT := Lib.hid (told_next hx)
      have HM := Lib.hid (fun x => step_mem (nm := nm) (upTo_order l j hj) k0' k2' x)
      have hll := upTo_len l j hj
      have HLN := Lib.hid (show (bits (upTo l j).1).length + 1 ≤ 100000 by rw [bits_len, hll.1]; omega)
      clear hx k0 k2 kn hll
      have HA := Lib.hid (below_alloc1 wr (.cells #[.int .i64 op, .string nm] 26))
      have HSA := Lib.hid (HS.out.bel HA.out)
      have HOA := Lib.hid (HO.out.bel HA.out)
      have HBA := Lib.hid (HB.out.alloc HB.out.size (.cells #[.int .i64 op, .string nm] 26))
      clear HA
      have hcases : op = 0 ∨ op = 1 ∨ op = 2 := by omega
      rcases hcases with rfl | rfl | rfl
      · clear k0' k2'
        go_wp2_with fail
        refine (set_add HSA.out nm kn' (by omega)).mono ?_
        rintro e w2 ⟨rfl, hs2, hg2⟩
        have HS2 := Lib.hid (hs2.bel (below_alloc1 w2 (.cells #[.bool (!decide (nm.data.toList ∈ (upTo l j).2))] 4)))
        have HO2 := Lib.hid ((HOA.out.kept hg2 (HOA.out.ne (Nat.lt_succ_self _))).bel (below_alloc1 w2 (.cells #[.bool (!decide (nm.data.toList ∈ (upTo l j).2))] 4)))
        have hB2 := HBA.out.grown hg2 HBA.out.size (fun k hk => by cases hk; exact Nat.le_refl _)
        have HB2 := Lib.hid (hB2.alloc hB2.size (.cells #[.bool (!decide (nm.data.toList ∈ (upTo l j).2))] 4))
        have hz2 := hg2.size
        have hzz := HZ.out
        have HZ2 := Lib.hid (show w.heap.size + 1 ≤ (w2.alloc (.cells #[.bool (!decide (nm.data.toList ∈ (upTo l j).2))] 4)).heap.size by simp at hz2 ⊢; omega)
        clear hs2 hg2 hB2 hz2 hzz c0 c1
        go_wp2_with (at_builtin; refine row_append Try.underlying29 hib hzb hsb hbb (by decide) rfl HO2.out (news := [.bool (!decide (nm.data.toList ∈ (upTo l j).2))]) (m := 1) rfl (news1 w2 _ 4) (by simp [Value.oneCell']) HLN.out HZ2.out rfl _ _ rfl rfl rfl ?_; intro g cp w3 hown3 hgrow3)
        have hB3 := HB2.out.grown hgrow3 HB2.out.size (fun k hk => by have := (HO2.out.in_ k hk).1; omega)
        have hS3 := HS2.out.kept hgrow3 (HO2.out.ne (Nat.lt_succ_self _))
        go_wp2
        go_roundw
        case rel =>
          refine ⟨j + 1, by omega, by go_num, ?_, hS3.same fun x => ?_, hB3, by have := hgrow3.size; have := HZ2.out; omega⟩
          · rw [HT.out]
            have e : toldB 0 (decide (nm.data.toList ∈ (upTo l j).2)) = !decide (nm.data.toList ∈ (upTo l j).2) := by simp [toldB]
            rw [e]
            exact hown3
          · rw [upTo_next HX.out, HM.out x]; simp
        case measure => simp [intOf]; omega
      · clear k0' k2'
        go_wp2_with fail
        refine (set_remove HSA.out nm kn').mono ?_
        rintro e w2 ⟨rfl, hs2, hg2⟩
        have HS2 := Lib.hid (hs2.bel (below_alloc1 w2 (.cells #[.bool true] 4)))
        have HO2 := Lib.hid ((HOA.out.kept hg2 (HOA.out.ne (Nat.lt_succ_self _))).bel (below_alloc1 w2 (.cells #[.bool true] 4)))
        have hB2 := HBA.out.grown hg2 HBA.out.size (fun k hk => by cases hk; exact Nat.le_refl _)
        have HB2 := Lib.hid (hB2.alloc hB2.size (.cells #[.bool true] 4))
        have hz2 := hg2.size
        have hzz := HZ.out
        have HZ2 := Lib.hid (show w.heap.size + 1 ≤ (w2.alloc (.cells #[.bool true] 4)).heap.size by simp at hz2 ⊢; omega)
        clear hs2 hg2 hB2 hz2 hzz c0 c1
        go_wp2_with (at_builtin; refine row_append Try.underlying29 hib hzb hsb hbb (by decide) rfl HO2.out (news := [.bool true]) (m := 1) rfl (news1 w2 _ 4) (by simp [Value.oneCell']) HLN.out HZ2.out rfl _ _ rfl rfl rfl ?_; intro g cp w3 hown3 hgrow3)
        have hB3 := HB2.out.grown hgrow3 HB2.out.size (fun k hk => by have := (HO2.out.in_ k hk).1; omega)
        have hS3 := HS2.out.kept hgrow3 (HO2.out.ne (Nat.lt_succ_self _))
        go_wp2
        go_roundw
        case rel =>
          refine ⟨j + 1, by omega, by go_num, ?_, (hS3.mono (Nat.le_succ _)).same fun x => ?_, hB3, by have := hgrow3.size; have := HZ2.out; omega⟩
          · rw [HT.out]
            have e : toldB 1 (decide (nm.data.toList ∈ (upTo l j).2)) = true := by simp [toldB]
            rw [e]
            exact hown3
          · rw [upTo_next HX.out, HM.out x]; simp
        case measure => simp [intOf]; omega
      · clear k0' k2'
        go_wp2_with fail
        refine (set_has HSA.out nm kn').mono ?_
        rintro e w2 ⟨rfl, hs2, hg2⟩
        have HS2 := Lib.hid (hs2.bel (below_alloc1 w2 (.cells #[.bool (decide (nm.data.toList ∈ (upTo l j).2))] 4)))
        have HO2 := Lib.hid ((HOA.out.bel hg2).bel (below_alloc1 w2 (.cells #[.bool (decide (nm.data.toList ∈ (upTo l j).2))] 4)))
        have hB2 := HBA.out.trans (hg2.mono HBA.out.size)
        have HB2 := Lib.hid (hB2.alloc hB2.size (.cells #[.bool (decide (nm.data.toList ∈ (upTo l j).2))] 4))
        have hz2 := hg2.size
        have hzz := HZ.out
        have HZ2 := Lib.hid (show w.heap.size + 1 ≤ (w2.alloc (.cells #[.bool (decide (nm.data.toList ∈ (upTo l j).2))] 4)).heap.size by simp at hz2 ⊢; omega)
        clear hs2 hg2 hB2 hz2 hzz c0 c1
        go_wp2_with (at_builtin; refine row_append Try.underlying29 hib hzb hsb hbb (by decide) rfl HO2.out (news := [.bool (decide (nm.data.toList ∈ (upTo l j).2))]) (m := 1) rfl (news1 w2 _ 4) (by simp [Value.oneCell']) HLN.out HZ2.out rfl _ _ rfl rfl rfl ?_; intro g cp w3 hown3 hgrow3)
        have hB3 := HB2.out.grown hgrow3 HB2.out.size (fun k hk => by have := (HO2.out.in_ k hk).1; omega)
        have hS3 := HS2.out.kept hgrow3 (HO2.out.ne (Nat.lt_succ_self _))
        go_wp2
        go_roundw
        case rel =>
          refine ⟨j + 1, by omega, by go_num, ?_, (hS3.mono (Nat.le_succ _)).same fun x => ?_, hB3, by have := hgrow3.size; have := HZ2.out; omega⟩
          · rw [HT.out]
            have e : toldB 2 (decide (nm.data.toList ∈ (upTo l j).2)) = decide (nm.data.toList ∈ (upTo l j).2) := by simp [toldB]
            rw [e]
            exact hown3
          · rw [upTo_next HX.out, HM.out x]; simp
        case measure => simp [intOf]; omega
    · have hje : j = l.length := by omega
      subst hje
      have HOr := Lib.hid (upTo_order l l.length hj)
      have hll := upTo_len l l.length hj
      have HLN := Lib.hid (show (strs (upTo l l.length).2).length ≤ 60 by rw [strs_len]; omega)
      have HS0 := Lib.hid (HS.out.bel (below_alloc1 wr (.cells #[] 9)))
      have HO0 := Lib.hid (HO.out.bel (below_alloc1 wr (.cells #[] 9)))
      have HB0 := Lib.hid (HB.out.alloc HB.out.size (.cells #[] 9))
      clear hll
      go_wp2_with fail
      refine (ordered_any HS0.out (by omega) HOr.out).mono ?_
      rintro e w2 ⟨⟨v2, rfl, hown2⟩, hb2⟩
      obtain ⟨g2, cap2, rfl, hge2, _, _⟩ := hown2.form
      have HO2 := Lib.hid (hown2.mono (show w.heap.size ≤ _ by have := HB0.out.size; simpa using this))
      have HT2 := Lib.hid ((HO0.out.bel hb2).mono (Nat.le_succ w.heap.size))
      have HB2 := Lib.hid (HB0.out.trans (hb2.mono HB0.out.size))
      have HW2 := Lib.hid ((hb2.block wr.heap.size (by simp)).trans (heap_alloc_new wr (.cells #[] 9)))
      have hlow : w.heap.size ≤ wr.heap.size := HB.out.size
      obtain ⟨M, hM⟩ : ∃ M, (upTo l l.length).2.length = M := ⟨_, rfl⟩
      have hM60 : M ≤ 60 := by rw [← hM, ← strs_len]; exact HLN.out
      have HMM := Lib.hid hM
      have e1 : (strs (upTo l l.length).2).length = M := by rw [strs_len, hM]
      rw [e1] at HO2 ⊢
      clear hb2 hown2 hge2 hM e1
      go_wp2
      go_loopw [8, 51] (fun v i wx => ∃ k : Nat, k ≤ M ∧ i = .int .i64 k ∧ OwnR 9 w.heap.size wx v (strs ((upTo l l.length).2.take k)) ∧ OwnR 4 w.heap.size wx u5 (bits (upTo l l.length).1) ∧ OwnR 40 w.heap.size wx (.slice (some ⟨g2, 0, none⟩) M cap2) (strs (upTo l l.length).2) ∧ Below w.heap.size w wx) (fun _ i _ => M - (intOf i).toNat)
      case atStart => exact ⟨0, Nat.zero_le _, rfl, OwnR.empty hlow HW2.out, HT2.out, HO2.out, HB2.out⟩
      case round =>
        obtain ⟨k, hk, rfl, hv, ht, hi, hBx⟩ := hrel
        have HV := Lib.hid hv; have HTT := Lib.hid ht; have HI := Lib.hid hi; have HBX := Lib.hid hBx
        clear hv ht hi hBx
        by_cases hkl : k < M
        · obtain ⟨x, hx⟩ : ∃ x, (upTo l l.length).2[k]? = some x := ⟨_, List.getElem?_eq_getElem (by rw [HMM.out]; exact hkl)⟩
          have c0 : wr.cell? ⟨g2, k, none⟩ = some (str x) := HI.out.cell (by rw [strs, List.getElem?_map, hx]; rfl)
          have HX := Lib.hid hx
          have HVA := Lib.hid (HV.out.bel (below_alloc1 wr (.cells #[str x] 9)))
          have HTA := Lib.hid (HTT.out.bel (below_alloc1 wr (.cells #[str x] 9)))
          have HIA := Lib.hid (HI.out.bel (below_alloc1 wr (.cells #[str x] 9)))
          have HBA := Lib.hid (HBX.out.alloc HBX.out.size (.cells #[str x] 9))
          have HTK := Lib.hid (show (strs ((upTo l l.length).2.take k)).length + 1 ≤ 100000 by rw [strs_len, List.length_take]; omega)
          clear hx
          unfold str at c0
          go_wp2_with (at_builtin; refine row_append Try.underlying30 his hzs hss hbs (by decide) rfl HVA.out (news := [str x]) (m := 1) rfl (news1 wr _ 9) (by simp [str, Value.oneCell']) HTK.out HBA.out.size rfl _ _ rfl rfl rfl ?_; intro g cp w3 hown3 hgrow3)
          have hB3 := HBA.out.grown hgrow3 HBA.out.size (fun k hk => (HVA.out.in_ k hk).1)
          have hT3 := HTA.out.kept hgrow3 (HTA.out.apart HVA.out (by decide))
          have hI3 := HIA.out.kept hgrow3 (HIA.out.apart HVA.out (by decide))
          go_wp2
          go_roundw
          case rel =>
            refine ⟨k + 1, by omega, by go_num, ?_, hT3, hI3, hB3⟩
            have e : strs ((upTo l l.length).2.take (k + 1)) = strs ((upTo l l.length).2.take k) ++ [str x] := by
              rw [List.take_add_one, HX.out]
              simp [strs]
            rw [e]
            exact hown3
          case measure => simp [intOf]; omega
        · have hke : k = M := by omega
          subst hke
          have ht : (upTo l l.length).2.take k = (upTo l l.length).2 := List.take_of_length_le (Nat.le_of_eq HMM.out)
          rw [ht] at HV
          clear ht
          go_wp2
          go_ret2
          exact ⟨⟨_, _, rfl, HTT.out, HV.out⟩, HBX.out⟩
end Go.Proofs.Ytceepfnjdkfjnaa
