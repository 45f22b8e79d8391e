/-
  ast.clone, at every tree that lies in memory. Conditions: the lengths of its lists.
-/
import Derived.Test.YtceepfnjdkfjnaaFmtClone1
import Derived.Test.YtceepfnjdkfjnaaFmtClone2
import Derived.Test.YtceepfnjdkfjnaaFmtClone3
import Derived.Test.YtceepfnjdkfjnaaFmtClone4
import Derived.Test.YtceepfnjdkfjnaaFmtClone5
import Derived.Test.YtceepfnjdkfjnaaFmtClone6
import Derived.Test.YtceepfnjdkfjnaaFmtClone8
namespace Go.Proofs.YtceepfnjdkfjnaaFmt
open Go.ChangeShapes Go.WideShapes Go.ChangeAt Go.RowKit Go.Joins

theorem clone_any (t : Tr) : Bnd 6 t → CloneOk t := by
  have key : ∀ t : Tr, (Bnd 6 t → CloneOk t) ∧ ∀ s ∈ t.subs, Bnd 6 t → CloneOk s := by
    intro t
    refine Tr.ind (P := fun t => (Bnd 6 t → CloneOk t) ∧ ∀ s ∈ t.subs, Bnd 6 t → CloneOk s) (fun t ih => ?_) t
    have sub1 : ∀ s ∈ t.subs, Bnd 6 t → CloneOk s := fun s hs h => (ih s hs).1 (h.sub _ hs)
    have sub2 : ∀ s ∈ t.subs, Bnd 6 t → ∀ u ∈ s.subs, CloneOk u := fun s hs h u hu => (ih s hs).2 u hu (h.sub _ hs)
    refine ⟨fun hB => ?_, sub1⟩
    have k1 := fun s hs => sub1 s hs hB
    have k2 := fun s hs => sub2 s hs hB
    have hlen := hB.len
    clear sub1 sub2 ih
    intro w S y b c j cs T h hSc hc hj
    cases h with
    | null b p0 p1 n0 n1 hS hb => exact clone_null hS hb hSc hc hj
    | boolean b fl p0 p1 n0 n1 hS hb => exact clone_boolean fl hS hb hSc hc hj
    | number b tx p0 p1 n0 n1 hS hb => exact clone_number tx hS hb hSc hc hj
    | str b tx op p0 p1 n0 n1 hS hb => exact clone_str tx op hS hb hSc hc hj
    | self b p0 p1 n0 n1 hS hb => exact clone_self hS hb hSc hc hj
    | dollar b p0 p1 n0 n1 hS hb => exact clone_dollar hS hb hSc hc hj
    | var b tx p0 p1 n0 n1 hS hb => exact clone_var tx hS hb hSc hc hj
    | unary b op p0 p1 n0 n1 hS s1 hb a1 => exact clone_unary op hS s1 a1 (k1 _ (by simp [Tr.subs])) hb hSc hc hj
    | binary b op p0 p1 p2 n0 n1 n2 hS s1 s2 d12 hb a1 a2 => exact clone_binary op hS s1 a1 (k1 _ (by simp [Tr.subs])) s2 a2 (k1 _ (by simp [Tr.subs])) d12 hb hSc hc hj
    | if2 b p0 p1 p2 p3 n0 n1 n2 n3 hS s1 s2 d12 hb a1 a2 => exact clone_if2 hS s1 a1 (k1 _ (by simp [Tr.subs])) s2 a2 (k1 _ (by simp [Tr.subs])) d12 hb hSc hc hj
    | if3 b p0 p1 p2 p3 n0 n1 n2 n3 hS s1 s2 s3 d12 d13 d23 hb a1 a2 a3 => exact clone_if3 hS s1 a1 (k1 _ (by simp [Tr.subs])) s2 a2 (k1 _ (by simp [Tr.subs])) s3 a3 (k1 _ (by simp [Tr.subs])) d12 d13 d23 hb hSc hc hj
    | brace b p0 p1 n0 n1 hS s1 s2 d12 hb a1 a2 => exact clone_brace hS s1 a1 (k1 _ (by simp [Tr.subs])) s2 a2 (k1 _ (by simp [Tr.subs])) d12 hb hSc hc hj
    | index b p0 p1 p2 p3 n0 n1 n2 n3 hS s1 s2 d12 hb a1 a2 => exact clone_index hS s1 a1 (k1 _ (by simp [Tr.subs])) s2 a2 (k1 _ (by simp [Tr.subs])) d12 hb hSc hc hj
    | dot b i tx p0 p1 p2 p3 n0 n1 n2 n3 hS hi hbi s1 hb hid a1 => exact clone_dot i tx hS hi hbi s1 hid a1 (k1 _ (by simp [Tr.subs])) hb hSc hc hj
    | error b p0 p1 n0 n1 hS s1 hb a1 => exact clone_error hS s1 a1 (k1 _ (by simp [Tr.subs])) hb hSc hc hj
    | parens b p0 p1 p2 n0 n1 n2 hS s1 hb a1 => exact clone_parens hS s1 a1 (k1 _ (by simp [Tr.subs])) hb hSc hc hj
    | apply b g cur p0 p1 p2 p3 p4 p5 n0 n1 n2 n3 n4 n5 cap tc a hS s1 hg hcap hr ss dd hb a1 aa =>
      exact clone_apply (by simp [Tr.subs] at hlen; omega) hS s1 hg hr ss dd hb a1 (k1 _ (by simp [Tr.subs])) aa (fun t ht => k2 (.mk 32 ByteArray.empty 0 false [t]) (List.mem_cons_of_mem _ (List.mem_map.2 ⟨t, ht, rfl⟩)) t (by simp [Tr.subs])) hSc hc hj
    | array b g cur p0 p1 p2 n0 n1 n2 cap tc a hS hg hcap hr ss dd hb aa =>
      exact clone_array hlen hS hg hr ss dd hb aa k1 hSc hc hj
    | object b g cur p0 p1 p2 n0 n1 n2 cap tc a hS hg hcap hr ss d12 dd di hb a1 a2 =>
      exact clone_object hlen hS hg hr ss d12 dd di hb a1 a2 k2 hSc hc hj
  exact (key t).1
end Go.Proofs.YtceepfnjdkfjnaaFmt
