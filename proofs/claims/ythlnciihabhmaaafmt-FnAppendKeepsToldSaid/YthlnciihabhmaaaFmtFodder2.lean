/-
  ast.FodderAppend, its other ways. Conditions: the lists' lengths, the numbers of blank lines.
-/
import Derived.Test.YthlnciihabhmaaaFmtFodder
namespace Go.Proofs.YthlnciihabhmaaaFmt
open Go.ChangeShapes Go.WideShapes Go.ChangeAt Go.RowKit Go.Joins

theorem eV_one' {w : World} {k bl ind : Int} {u : Value} {ss : List ByteArray} (h : Comm w u ss) : ∀ c ∈ eV ⟨k, bl, ind, ss⟩ u, c.oneCell' = true := eV_one (p := ⟨k, bl, ind, ss⟩) h
set_option maxHeartbeats 4000000 in
/-- The end of a line with a comment behind a line. -/
theorem fappend_lines {w : World} {A base : Nat} {v u : Value} {ps : List Pc} {bl ind : Int} {ss : List ByteArray} (hA : Var w A 62 v) (hO : OwnX eV (fun k => k = A) base 56 w v ps) (hbase : base ≤ w.heap.size)
    (hu : Comm w u ss) (hfu : Far (fun k => k = A ∨ v.ownBlock = some k) u ss) (hm : (ps.length : Int) ≤ 2147483646) (hr : cleanB ps = true) (h0 : (0 : Int) < ss.length) (hn : ss.length ≤ 1000000) :
    Calls Tryf.prog 42 #[.pointer (some ⟨A, 0, none⟩), .agg #[u, .int .i64 0, .int .i64 bl, .int .i64 ind]] w (Appended base A w v (ps ++ [⟨2, bl, ind, ss⟩])) := by
  obtain ⟨a, cap, rfl⟩ := hO.pcs.form
  obtain ⟨ua, ucap, rfl⟩ := hu.form
  have hB1 := below_alloc1 w (.cells #[.slice ua ss.length ucap, .int .i64 0, .int .i64 bl, .int .i64 ind] 56)
  have x0 := hA.lt
  have x1 := hA.cell
  have x2 := hA.free
  have HP1 := Lib.hid (hO.pcs.below hB1)
  have HR := Lib.hid hr
  have hm' : (ps.length : Int) ≤ 2147483647 := by omega
  obtain ⟨xs, hown, hcs⟩ := hO
  have HO := Lib.hid hown
  have HC := Lib.hid hcs
  have HV := Lib.hid hA
  have HNE := Lib.hid (hA.ne_ hown (by decide))
  obtain ⟨i0, hi0, hz0, hs0, hb0⟩ := info_parts infoE
  have HU := Lib.hid hu
  have HF := Lib.hid hfu
  have hks : KindP 2 bl ind ss.length := .inr (.inr ⟨rfl, by omega⟩)
  have HKS := Lib.hid hks
  have HSB := Lib.hid (BoxAt.start (W1 := w.alloc (.cells #[.slice ua ss.length ucap, .int .i64 0, .int .i64 bl, .int .i64 ind] 56)) (g := w.heap.size) (by simp))
  have HAB := Lib.hid (show (⟨A, 0, none⟩ : Addr).block ≠ w.heap.size from Nat.ne_of_lt hA.lt)
  have HNB := Lib.hid (show (Value.slice a ps.length cap).ownBlock ≠ some w.heap.size from fun e => by have := (hown.lt _ e).2; omega)
  clear hA hown hcs hu hr hfu hks
  go_enter Tryf.func42, Tryf.ntmps42
  go_wp2_with (go_at_call 48; refine (cleanE_is HP1.out hm' HR.out).mono ?_; rintro e w' ⟨rfl, rfl⟩)
  go_region_law ((first | (refine step_call (by rfl) (make_any 2 bl ind ua ss.length ucap _ HKS.out hn) (by go_simp) ?_; rintro e w4 ⟨rfl, hb4⟩; refine ⟨_, rfl, ?_⟩; have hB4 : Below w.heap.size w w4 := (hB1.drew.trans (hb4.mono hB1.size)); have hS4 := BoxAt.below HSB.out hb4; have HV4 := Lib.hid (HV.out.below hB4); have y1 := HV4.out.cell; have y2 := HV4.out.free; have y0 := HV4.out.lt; have hB5 := hB4.trans ((below_alloc1 w4 (.cells #[.slice ua ss.length ucap, .int .i64 2, .int .i64 bl, .int .i64 ind] 56)).mono hB4.size); have HO5 := Lib.hid (ownsRow_below HO.out hB5); have HV5 := Lib.hid (HV.out.below hB5)) | (refine step_append_lies _ (by rfl) (.tmp 21) (.tmp 29) 62 (by rfl) base 56 i0 (.agg #[.slice none 0 0, .int .i64 0, .int .i64 0, .int .i64 0]) 4 48 Tryf.underlying62 hi0 hz0 hs0 hb0 rfl (by omega) (.slice a ps.length cap) ps.length xs (by simp [Act.eval]) HO5.out ⟨w4.heap.size, 0, none⟩ 1 1 (eV ⟨2, bl, ind, ss⟩ (.slice ua ss.length ucap)) (by simp [Act.eval]) rfl (news4 rfl) (eV_one' HU.out) (by omega) (by unfold maxLen; omega) (by omega) (Nat.le_trans hbase hB5.size) _ rfl ?_; intro g cap1 w3 hown1 hgrow1 hat1 hlt1; have HV6 := Lib.hid (var_grown HV5.out HNE.out hgrow1); have hS6 := BoxAt.grown (BoxAt.alloc hS4 (.cells #[.slice ua ss.length ucap, .int .i64 2, .int .i64 bl, .int .i64 ind] 56)) hgrow1 HNB.out; have y3 := HV6.out.cell; have y4 := HV6.out.free)))
  all_goals
    go_end0
    exact appended_of (p := ⟨2, bl, ind, ss⟩) hB5 HV6.out HNE.out x0 HC.out HU.out HF.out hown1 rfl hgrow1 hat1
end Go.Proofs.YthlnciihabhmaaaFmt
