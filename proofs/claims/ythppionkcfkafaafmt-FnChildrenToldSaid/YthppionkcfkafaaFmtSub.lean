/-
  What is right below a tree, in plain words: its part that is in the same surroundings. Conditions: spec.Tree's.
-/
import Derived.Test.YthppionkcfkafaaFmtFits6
import Derived.Test.YthppionkcfkafaaFmtAmong
import Derived.Test.YthppionkcfkafaaFmtSpecKids
namespace Go.Proofs.YthppionkcfkafaaFmt
open Go.ChangeShapes Go.WideShapes Go.ChangeAt Go.RowKit Go.Joins

theorem bnd_mono {m n : Nat} (h : m ≤ n) {t : Tr} : Bnd m t → Bnd n t := by
  induction t using Tr.ind with
  | h t ih => exact fun hb => .mk t (Nat.le_trans hb.len h) fun s hs => ih s hs (hb.sub s hs)
/-- What is right below, in a list without arguments. -/
theorem ok_sub {t : Tr} (ok : Ok t) (h20 : t.k ≠ 20) : (∀ s ∈ t.subs, s.k = 32 → 0 < s.subs.length) ∧ (directF t = (t.subs.map unarg).take (directF t).length) ∧ (t.k = 8 ∨ t.k = 28 ∨ t.k = 23 → ∃ s, t.subs = [s]) := by
  have nk : ∀ {s : Tr}, Ok s → s.k ≠ 32 := fun h => by cases h <;> simp [Tr.k]
  have un : ∀ {s : Tr}, Ok s → unarg s = s := fun h => if_neg (nk h)
  cases ok with
  | null => exact ⟨by simp [Tr.subs], by simp [directF, Tr.k, Tr.subs], by simp [Tr.k]⟩
  | boolean fl => exact ⟨by simp [Tr.subs], by simp [directF, Tr.k, Tr.subs], by simp [Tr.k]⟩
  | number tx => exact ⟨by simp [Tr.subs], by simp [directF, Tr.k, Tr.subs], by simp [Tr.k]⟩
  | str tx op h0 h4 => exact ⟨by simp [Tr.subs], by simp [directF, Tr.k, Tr.subs], by simp [Tr.k]⟩
  | self => exact ⟨by simp [Tr.subs], by simp [directF, Tr.k, Tr.subs], by simp [Tr.k]⟩
  | dollar => exact ⟨by simp [Tr.subs], by simp [directF, Tr.k, Tr.subs], by simp [Tr.k]⟩
  | var tx => exact ⟨by simp [Tr.subs], by simp [directF, Tr.k, Tr.subs], by simp [Tr.k]⟩
  | unary op t1 h0 h4 a1 => exact ⟨by simp [Tr.subs, nk a1], by simp [directF, Tr.k, Tr.subs, un a1], fun _ => ⟨t1, rfl⟩⟩
  | binary op t1 t2 h0 h4 a1 a2 => exact ⟨by simp [Tr.subs, nk a1, nk a2], by simp [directF, Tr.k, Tr.subs, un a1, un a2], by simp [Tr.k]⟩
  | if2 t1 t2 a1 a2 => exact ⟨by simp [Tr.subs, nk a1, nk a2], by simp [directF, Tr.k, Tr.subs, un a1, un a2], by simp [Tr.k]⟩
  | if3 t1 t2 t3 a1 a2 a3 => exact ⟨by simp [Tr.subs, nk a1, nk a2, nk a3], by simp [directF, Tr.k, Tr.subs, un a1, un a2, un a3], by simp [Tr.k]⟩
  | brace t1 t2 a1 a2 => exact ⟨by simp [Tr.subs, nk a1, nk a2], by simp [directF, Tr.k, Tr.subs, un a1, un a2], by simp [Tr.k]⟩
  | index t1 t2 a1 a2 => exact ⟨by simp [Tr.subs, nk a1, nk a2], by simp [directF, Tr.k, Tr.subs, un a1, un a2], by simp [Tr.k]⟩
  | dot tx t1 a1 => exact ⟨by simp [Tr.subs, nk a1], by simp [directF, Tr.k, Tr.subs, un a1], by simp [Tr.k]⟩
  | error t1 a1 => exact ⟨by simp [Tr.subs, nk a1], by simp [directF, Tr.k, Tr.subs, un a1], fun _ => ⟨t1, rfl⟩⟩
  | parens t1 a1 => exact ⟨by simp [Tr.subs, nk a1], by simp [directF, Tr.k, Tr.subs, un a1], fun _ => ⟨t1, rfl⟩⟩
  | apply t1 l hl a1 aa =>
    refine ⟨fun s hs _ => ?_, by simp [directF, Tr.k, Tr.subs, un a1], by simp [Tr.k]⟩
    rcases List.mem_cons.1 (show s ∈ t1 :: l.map _ from hs) with rfl | hs
    · exact absurd ‹_› (nk a1)
    · obtain ⟨t, ht, rfl⟩ := List.mem_map.1 hs
      simp [Tr.subs]
  | array l hl aa => exact ⟨fun s hs h => absurd h (nk (aa s hs)), by simp [directF, Tr.k], by simp [Tr.k]⟩
  | object l hl hf aa => exact absurd rfl h20
theorem directF_mem {t s : Tr} (h : s ∈ directF t) : s ∈ t.subs := by
  unfold directF at h
  split at h
  · exact List.mem_of_mem_take h
  · split at h
    · cases h
    · exact h
theorem bnd_unarg {m : Nat} {s : Tr} (h : Bnd m s) : Bnd m (unarg s) := by
  unfold unarg
  split
  · cases hs : s.subs with
    | nil => simpa using h
    | cons y ys => exact h.sub y (by rw [hs]; simp)
  · exact h
theorem direct_hle {t : Tr} (ok : Ok t) (h20 : t.k ≠ 20) : ∀ x ∈ directF t, cntF (directF t) x ≤ cntF (t.subs.map unarg) x := fun x _ => by
  have h := cnt_take (t.subs.map unarg) (directF t).length x
  rwa [← (ok_sub ok h20).2.1] at h
theorem len_map_unarg {t : Tr} {n : Nat} (h : Bnd n t) : (t.subs.map unarg).length ≤ n := by
  rw [List.length_map]; exact h.len
theorem bnd_map_unarg {t : Tr} {n : Nat} (h : Bnd n t) : ∀ x ∈ t.subs.map unarg, Bnd n x := fun x hx => by
  obtain ⟨s, hs, rfl⟩ := List.mem_map.1 hx
  exact bnd_unarg (h.sub s hs)
end Go.Proofs.YthppionkcfkafaaFmt
