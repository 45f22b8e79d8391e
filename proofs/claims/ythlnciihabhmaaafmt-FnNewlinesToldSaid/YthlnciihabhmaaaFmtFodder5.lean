/-
  ast.FodderAppend, all its ways; ast.FodderConcat. Conditions: the lists' lengths, the numbers of blank lines.
-/
import Derived.Test.YthlnciihabhmaaaFmtFodder2
import Derived.Test.YthlnciihabhmaaaFmtFodder4
import Derived.Test.YthlnciihabhmaaaFmtJoin
namespace Go.Proofs.YthlnciihabhmaaaFmt
open Go.ChangeShapes Go.WideShapes Go.ChangeAt Go.RowKit Go.Joins

theorem fodderAppend {w : World} {A base : Nat} {v u : Value} {ps : List Pc} {p : Pc} (hA : Var w A 62 v) (hO : OwnX eV (fun k => k = A) base 56 w v ps) (hbase : base ≤ w.heap.size)
    (hu : Comm w u p.ss) (hfu : Far (fun k => k = A ∨ v.ownBlock = some k) u p.ss) (hm : (ps.length : Int) ≤ 2147483645) (hk : p.k = 0 ∨ p.k = 1 ∨ p.k = 2) (hb : 0 ≤ p.bl ∧ p.bl ≤ 1000000) (hbs : ∀ q ∈ ps, 0 ≤ q.bl ∧ q.bl ≤ 1000000) (hn : p.ss.length ≤ 1000000) :
    Calls Tryf.prog 42 #[.pointer (some ⟨A, 0, none⟩), .agg #[u, .int .i64 p.k, .int .i64 p.bl, .int .i64 p.ind]] w (Appended base A w v (appendP ps p)) := by
  obtain ⟨k, bl, ind, ss⟩ := p
  simp only at hu hfu hk hb hn
  cases hr : cleanB ps
  · by_cases h2 : k = 2
    · subst h2
      exact fappend_ahead hA hO hbase hu hfu hm hr (by simp [appendP, hr])
    · have e : appendP ps ⟨k, bl, ind, ss⟩ = ps ++ [⟨k, bl, ind, ss⟩] := by simp [appendP, hr, h2]
      rw [e]
      exact fappend_plain hA hO hbase hu hfu (by omega) false hr (.inr ⟨rfl, h2⟩)
  · by_cases h0 : k = 0
    · subst h0
      rcases Nat.eq_zero_or_pos ss.length with h1 | h1
      · obtain rfl := List.eq_nil_of_length_eq_zero h1
        rcases nil_or_snoc ps with rfl | ⟨qs, q, rfl⟩
        · simp [cleanB] at hr
        · have e : appendP (qs ++ [q]) ⟨0, bl, ind, []⟩ = qs ++ [{ q with ind := ind, bl := q.bl + bl }] := by simp [appendP, hr, lastPlus]
          rw [e]
          have := hbs q (by simp)
          exact fappend_into hA hO hu (by omega) hr this.1 this.2 hb.1 hb.2
      · have e : appendP ps ⟨0, bl, ind, ss⟩ = ps ++ [⟨2, bl, ind, ss⟩] := by simp [appendP, hr, h1]
        rw [e]
        exact fappend_lines hA hO hbase hu hfu (by omega) hr (by omega) hn
    · have e : appendP ps ⟨k, bl, ind, ss⟩ = ps ++ [⟨k, bl, ind, ss⟩] := by simp [appendP, hr, h0]
      rw [e]
      exact fappend_plain hA hO hbase hu hfu (by omega) true hr (.inl ⟨rfl, h0⟩)
end Go.Proofs.YthlnciihabhmaaaFmt
