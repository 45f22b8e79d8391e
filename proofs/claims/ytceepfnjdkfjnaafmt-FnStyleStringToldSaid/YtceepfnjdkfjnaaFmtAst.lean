/-
  Trees of package ast in memory: what they are, and that they stay where memory that they do not lie in is written. Plain words on worlds; no function is walked.
-/
import Derived.Test.YtceepfnjdkfjnaaFmtTree
namespace Go.Proofs.YtceepfnjdkfjnaaFmt
open Go.ChangeShapes Go.WideShapes Go.ChangeAt Go.RowKit Go.Joins

/-- What a field of an object holds beside its name or string. -/
structure Fld where
  y1 : Nat
  b1 : Nat
  y2 : Nat
  b2 : Nat
  id : Option Nat
  p0 : Option Addr
  p1 : Option Addr
  p2 : Option Addr
  p3 : Option Addr
  n0 : Nat
  n1 : Nat
  n2 : Nat
  n3 : Nat
/-- A field's pointer to its name. -/
def ptrOf : Option Nat → Value
  | none => .pointer none
  | some c => .pointer (some ⟨c, 0, none⟩)
/-- The cells of a field with a name. -/
def Fld.rowId (F : Fld) (op : Int) (fl : Bool) (c : Nat) : List Value :=
  [.pointer none, .pointer (some ⟨c, 0, none⟩), .slice F.p0 0 F.n0, .slice F.p1 0 F.n1, .slice F.p2 0 F.n2, .slice F.p3 0 F.n3, .nilIface, .iface F.y2 (.pointer (some ⟨F.b2, 0, none⟩)), .nilIface,
    .pointer none, .string ByteArray.empty, .int .i64 0, .int .i64 0, .int .i64 0, .int .i64 0, .int .i64 1, .int .i64 op, .bool fl]
/-- The cells of a field with a string. -/
def Fld.rowStr (F : Fld) (op : Int) (fl : Bool) : List Value :=
  [.pointer none, .pointer none, .slice F.p0 0 F.n0, .slice F.p1 0 F.n1, .slice F.p2 0 F.n2, .slice F.p3 0 F.n3, .iface F.y1 (.pointer (some ⟨F.b1, 0, none⟩)), .iface F.y2 (.pointer (some ⟨F.b2, 0, none⟩)), .nilIface,
    .pointer none, .string ByteArray.empty, .int .i64 0, .int .i64 0, .int .i64 0, .int .i64 0, .int .i64 3, .int .i64 op, .bool fl]
/-- A field of a tree lies in a row of fields. -/
def Fld.at_ (w : World) (S : Nat → Prop) (b g : Nat) (cur : Array Value) (off : Nat) (F : Fld) (s : Tr) : Prop :=
  (∃ c t, s = .mk 37 s.tx s.op s.fl [t] ∧ F.id = some c ∧ S c ∧ c ≠ b ∧ c ≠ g ∧ w.heap[c]? = some (.cells #[.string s.tx] 121) ∧ ∀ j v, (F.rowId s.op s.fl c)[j]? = some v → cur[off + j]? = some v) ∨
  (∃ t1 t2, s = .mk 39 ByteArray.empty s.op s.fl [t1, t2] ∧ F.id = none ∧ ∀ j v, (F.rowStr s.op s.fl)[j]? = some v → cur[off + j]? = some v)

theorem heap_lt {w : World} {b : Nat} {o : Obj} (h : w.heap[b]? = some o) : b < w.heap.size := by
  rcases Nat.lt_or_ge b w.heap.size with hlt | hge
  · exact hlt
  · rw [Array.getElem?_eq_none hge] at h; cases h
theorem Fld.at_keep {w w' : World} {S T : Nat → Prop} (hT : ∀ k, S k → k < w.heap.size → T k) (hb : ∀ k, S k → k < w.heap.size → w'.heap[k]? = w.heap[k]?) {b g : Nat} {cur : Array Value} {off : Nat} {F : Fld} {s : Tr} (h : F.at_ w S b g cur off s) : F.at_ w' T b g cur off s := by
  rcases h with ⟨c, t, e, hi, hs, h1, h2, hh, hr⟩ | h
  · exact .inl ⟨c, t, e, hi, hT c hs (heap_lt hh), h1, h2, (hb c hs (heap_lt hh)).trans hh, hr⟩
  · exact .inr h

/-- A tree of package ast: its type, its block; it lies in blocks of S alone, the parts of it apart from each other. -/
inductive Ast (w : World) : (Nat → Prop) → Tr → TypeId → Nat → Prop
  | null {S : Nat → Prop} (b : Nat) (p0 p1 : Option Addr) (n0 n1 : Nat) (hS : S b)
      (hb : w.heap[b]? = some (.cells #[.slice p0 0 n0, .pointer none, .slice p1 0 n1, .pointer none, .string ByteArray.empty, .int .i64 0, .int .i64 0, .int .i64 0, .int .i64 0] 238)) :
      Ast w S (.mk 1 ByteArray.empty 0 false []) 194 b
  | boolean {S : Nat → Prop} (b : Nat) (fl : Bool) (p0 p1 : Option Addr) (n0 n1 : Nat) (hS : S b)
      (hb : w.heap[b]? = some (.cells #[.slice p0 0 n0, .pointer none, .slice p1 0 n1, .pointer none, .string ByteArray.empty, .int .i64 0, .int .i64 0, .int .i64 0, .int .i64 0, .bool fl] 197)) :
      Ast w S (.mk 2 ByteArray.empty 0 fl []) 195 b
  | number {S : Nat → Prop} (b : Nat) (tx : ByteArray) (p0 p1 : Option Addr) (n0 n1 : Nat) (hS : S b)
      (hb : w.heap[b]? = some (.cells #[.string tx, .slice p0 0 n0, .pointer none, .slice p1 0 n1, .pointer none, .string ByteArray.empty, .int .i64 0, .int .i64 0, .int .i64 0, .int .i64 0] 200)) :
      Ast w S (.mk 3 tx 0 false []) 198 b
  | str {S : Nat → Prop} (b : Nat) (tx : ByteArray) (op : Int) (p0 p1 : Option Addr) (n0 n1 : Nat) (hS : S b)
      (hb : w.heap[b]? = some (.cells #[.string tx, .string ByteArray.empty, .string ByteArray.empty, .slice p0 0 n0, .pointer none, .slice p1 0 n1, .pointer none, .string ByteArray.empty, .int .i64 0, .int .i64 0, .int .i64 0, .int .i64 0, .int .i64 op] 70)) :
      Ast w S (.mk 4 tx op false []) 54 b
  | self {S : Nat → Prop} (b : Nat) (p0 p1 : Option Addr) (n0 n1 : Nat) (hS : S b)
      (hb : w.heap[b]? = some (.cells #[.slice p0 0 n0, .pointer none, .slice p1 0 n1, .pointer none, .string ByteArray.empty, .int .i64 0, .int .i64 0, .int .i64 0, .int .i64 0] 252)) :
      Ast w S (.mk 5 ByteArray.empty 0 false []) 201 b
  | dollar {S : Nat → Prop} (b : Nat) (p0 p1 : Option Addr) (n0 n1 : Nat) (hS : S b)
      (hb : w.heap[b]? = some (.cells #[.slice p0 0 n0, .pointer none, .slice p1 0 n1, .pointer none, .string ByteArray.empty, .int .i64 0, .int .i64 0, .int .i64 0, .int .i64 0] 237)) :
      Ast w S (.mk 6 ByteArray.empty 0 false []) 202 b
  | var {S : Nat → Prop} (b : Nat) (tx : ByteArray) (p0 p1 : Option Addr) (n0 n1 : Nat) (hS : S b)
      (hb : w.heap[b]? = some (.cells #[.string tx, .slice p0 0 n0, .pointer none, .slice p1 0 n1, .pointer none, .string ByteArray.empty, .int .i64 0, .int .i64 0, .int .i64 0, .int .i64 0] 205)) :
      Ast w S (.mk 7 tx 0 false []) 203 b
  | unary {S : Nat → Prop} {S1 : Nat → Prop} (b : Nat) (op : Int) (p0 p1 : Option Addr) (n0 n1 : Nat) {t1 : Tr} {y1 : TypeId} {b1 : Nat} (hS : S b) (s1 : ∀ k, S1 k → S k ∧ k ≠ b)
      (hb : w.heap[b]? = some (.cells #[.iface y1 (.pointer (some ⟨b1, 0, .none⟩)), .slice p0 0 n0, .pointer none, .slice p1 0 n1, .pointer none, .string ByteArray.empty, .int .i64 0, .int .i64 0, .int .i64 0, .int .i64 0, .int .i64 op] 100)) (a1 : Ast w S1 t1 y1 b1) :
      Ast w S (.mk 8 ByteArray.empty op false [t1]) 96 b
  | binary {S : Nat → Prop} {S1 S2 : Nat → Prop} (b : Nat) (op : Int) (p0 p1 p2 : Option Addr) (n0 n1 n2 : Nat) {t1 t2 : Tr} {y1 y2 : TypeId} {b1 b2 : Nat} (hS : S b) (s1 : ∀ k, S1 k → S k ∧ k ≠ b) (s2 : ∀ k, S2 k → S k ∧ k ≠ b) (d12 : ∀ k, S1 k → ¬ S2 k)
      (hb : w.heap[b]? = some (.cells #[.iface y2 (.pointer (some ⟨b2, 0, .none⟩)), .iface y1 (.pointer (some ⟨b1, 0, .none⟩)), .slice p2 0 n2, .slice p0 0 n0, .pointer none, .slice p1 0 n1, .pointer none, .string ByteArray.empty, .int .i64 0, .int .i64 0, .int .i64 0, .int .i64 0, .int .i64 op] 104)) (a1 : Ast w S1 t1 y1 b1) (a2 : Ast w S2 t2 y2 b2) :
      Ast w S (.mk 9 ByteArray.empty op false [t1, t2]) 101 b
  | if2 {S : Nat → Prop} {S1 S2 : Nat → Prop} (b : Nat) (p0 p1 p2 p3 : Option Addr) (n0 n1 n2 n3 : Nat) {t1 t2 : Tr} {y1 y2 : TypeId} {b1 b2 : Nat} (hS : S b) (s1 : ∀ k, S1 k → S k ∧ k ≠ b) (s2 : ∀ k, S2 k → S k ∧ k ≠ b) (d12 : ∀ k, S1 k → ¬ S2 k)
      (hb : w.heap[b]? = some (.cells #[.iface y1 (.pointer (some ⟨b1, 0, .none⟩)), .iface y2 (.pointer (some ⟨b2, 0, .none⟩)), .nilIface, .slice p2 0 n2, .slice p3 0 n3, .slice p0 0 n0, .pointer none, .slice p1 0 n1, .pointer none, .string ByteArray.empty, .int .i64 0, .int .i64 0, .int .i64 0, .int .i64 0] 107)) (a1 : Ast w S1 t1 y1 b1) (a2 : Ast w S2 t2 y2 b2) :
      Ast w S (.mk 10 ByteArray.empty 0 false [t1, t2]) 105 b
  | if3 {S : Nat → Prop} {S1 S2 S3 : Nat → Prop} (b : Nat) (p0 p1 p2 p3 : Option Addr) (n0 n1 n2 n3 : Nat) {t1 t2 t3 : Tr} {y1 y2 y3 : TypeId} {b1 b2 b3 : Nat} (hS : S b) (s1 : ∀ k, S1 k → S k ∧ k ≠ b) (s2 : ∀ k, S2 k → S k ∧ k ≠ b) (s3 : ∀ k, S3 k → S k ∧ k ≠ b) (d12 : ∀ k, S1 k → ¬ S2 k) (d13 : ∀ k, S1 k → ¬ S3 k) (d23 : ∀ k, S2 k → ¬ S3 k)
      (hb : w.heap[b]? = some (.cells #[.iface y1 (.pointer (some ⟨b1, 0, .none⟩)), .iface y2 (.pointer (some ⟨b2, 0, .none⟩)), .iface y3 (.pointer (some ⟨b3, 0, .none⟩)), .slice p2 0 n2, .slice p3 0 n3, .slice p0 0 n0, .pointer none, .slice p1 0 n1, .pointer none, .string ByteArray.empty, .int .i64 0, .int .i64 0, .int .i64 0, .int .i64 0] 107)) (a1 : Ast w S1 t1 y1 b1) (a2 : Ast w S2 t2 y2 b2) (a3 : Ast w S3 t3 y3 b3) :
      Ast w S (.mk 10 ByteArray.empty 0 false [t1, t2, t3]) 105 b
  | brace {S : Nat → Prop} {S1 S2 : Nat → Prop} (b : Nat) (p0 p1 : Option Addr) (n0 n1 : Nat) {t1 t2 : Tr} {y1 y2 : TypeId} {b1 b2 : Nat} (hS : S b) (s1 : ∀ k, S1 k → S k ∧ k ≠ b) (s2 : ∀ k, S2 k → S k ∧ k ≠ b) (d12 : ∀ k, S1 k → ¬ S2 k)
      (hb : w.heap[b]? = some (.cells #[.iface y1 (.pointer (some ⟨b1, 0, .none⟩)), .iface y2 (.pointer (some ⟨b2, 0, .none⟩)), .slice p0 0 n0, .pointer none, .slice p1 0 n1, .pointer none, .string ByteArray.empty, .int .i64 0, .int .i64 0, .int .i64 0, .int .i64 0] 116)) (a1 : Ast w S1 t1 y1 b1) (a2 : Ast w S2 t2 y2 b2) :
      Ast w S (.mk 14 ByteArray.empty 0 false [t1, t2]) 114 b
  | index {S : Nat → Prop} {S1 S2 : Nat → Prop} (b : Nat) (p0 p1 p2 p3 : Option Addr) (n0 n1 n2 n3 : Nat) {t1 t2 : Tr} {y1 y2 : TypeId} {b1 b2 : Nat} (hS : S b) (s1 : ∀ k, S1 k → S k ∧ k ≠ b) (s2 : ∀ k, S2 k → S k ∧ k ≠ b) (d12 : ∀ k, S1 k → ¬ S2 k)
      (hb : w.heap[b]? = some (.cells #[.iface y1 (.pointer (some ⟨b1, 0, .none⟩)), .iface y2 (.pointer (some ⟨b2, 0, .none⟩)), .slice p2 0 n2, .slice p3 0 n3, .pointer none, .slice p0 0 n0, .pointer none, .slice p1 0 n1, .pointer none, .string ByteArray.empty, .int .i64 0, .int .i64 0, .int .i64 0, .int .i64 0] 120)) (a1 : Ast w S1 t1 y1 b1) (a2 : Ast w S2 t2 y2 b2) :
      Ast w S (.mk 15 ByteArray.empty 0 false [t1, t2]) 117 b
  | dot {S : Nat → Prop} {S1 : Nat → Prop} (b : Nat) (c : Nat) (tx : ByteArray) (p0 p1 p2 p3 : Option Addr) (n0 n1 n2 n3 : Nat) {t1 : Tr} {y1 : TypeId} {b1 : Nat} (hS : S b) (hc : S c) (hbc : b ≠ c) (s1 : ∀ k, S1 k → S k ∧ k ≠ b ∧ k ≠ c)
      (hb : w.heap[b]? = some (.cells #[.iface y1 (.pointer (some ⟨b1, 0, .none⟩)), .nilIface, .slice p2 0 n2, .slice p3 0 n3, .pointer (some ⟨c, 0, .none⟩), .slice p0 0 n0, .pointer none, .slice p1 0 n1, .pointer none, .string ByteArray.empty, .int .i64 0, .int .i64 0, .int .i64 0, .int .i64 0] 120)) (hid : w.heap[c]? = some (.cells #[.string tx] 121)) (a1 : Ast w S1 t1 y1 b1) :
      Ast w S (.mk 16 tx 0 false [t1]) 117 b
  | error {S : Nat → Prop} {S1 : Nat → Prop} (b : Nat) (p0 p1 : Option Addr) (n0 n1 : Nat) {t1 : Tr} {y1 : TypeId} {b1 : Nat} (hS : S b) (s1 : ∀ k, S1 k → S k ∧ k ≠ b)
      (hb : w.heap[b]? = some (.cells #[.iface y1 (.pointer (some ⟨b1, 0, .none⟩)), .slice p0 0 n0, .pointer none, .slice p1 0 n1, .pointer none, .string ByteArray.empty, .int .i64 0, .int .i64 0, .int .i64 0, .int .i64 0] 153)) (a1 : Ast w S1 t1 y1 b1) :
      Ast w S (.mk 23 ByteArray.empty 0 false [t1]) 151 b
  | parens {S : Nat → Prop} {S1 : Nat → Prop} (b : Nat) (p0 p1 p2 : Option Addr) (n0 n1 n2 : Nat) {t1 : Tr} {y1 : TypeId} {b1 : Nat} (hS : S b) (s1 : ∀ k, S1 k → S k ∧ k ≠ b)
      (hb : w.heap[b]? = some (.cells #[.iface y1 (.pointer (some ⟨b1, 0, .none⟩)), .slice p2 0 n2, .slice p0 0 n0, .pointer none, .slice p1 0 n1, .pointer none, .string ByteArray.empty, .int .i64 0, .int .i64 0, .int .i64 0, .int .i64 0] 162)) (a1 : Ast w S1 t1 y1 b1) :
      Ast w S (.mk 28 ByteArray.empty 0 false [t1]) 160 b
  | apply {S S1 : Nat → Prop} {SS : Nat → Nat → Prop} (b g : Nat) (cur : Array Value) (p0 p1 p2 p3 p4 p5 : Option Addr) (n0 n1 n2 n3 n4 n5 cap : Nat) (tc : Bool) (a : Option Addr) {t1 : Tr} {y1 : TypeId} {b1 : Nat} {l : List Tr} {ys bs : Nat → Nat} {ps : Nat → Option Addr} {ns : Nat → Nat} (hS : S b) (s1 : ∀ k, S1 k → S k ∧ k ≠ b ∧ (0 < l.length → k ≠ g))
      (hg : 0 < l.length → a = some ⟨g, 0, .none⟩ ∧ S g ∧ g ≠ b ∧ w.heap[g]? = some (.cells cur 130)) (hcap : l.length ≤ cap)
      (hr : ∀ i, i < l.length → cur[i * 2]? = some (.iface (ys i) (.pointer (some ⟨bs i, 0, .none⟩))) ∧ cur[i * 2 + 1]? = some (.slice (ps i) 0 (ns i)))
      (ss : ∀ i, i < l.length → ∀ k, SS i k → S k ∧ k ≠ b ∧ k ≠ g ∧ ¬ S1 k) (dd : ∀ i j, i < j → j < l.length → ∀ k, SS i k → ¬ SS j k)
      (hb : w.heap[b]? = some (.cells #[.iface y1 (.pointer (some ⟨b1, 0, .none⟩)), .slice p2 0 n2, .slice a l.length cap, .slice p3 0 n3, .slice p4 0 n4, .slice p5 0 n5, .slice p0 0 n0, .pointer none, .slice p1 0 n1, .pointer none, .string ByteArray.empty, .int .i64 0, .int .i64 0, .int .i64 0, .int .i64 0, .bool tc, .bool false] 170)) (a1 : Ast w S1 t1 y1 b1) (aa : ∀ i t, l[i]? = some t → Ast w (SS i) t (ys i) (bs i)) :
      Ast w S (.mk 13 ByteArray.empty 0 false (t1 :: l.map fun t => .mk 32 ByteArray.empty 0 false [t])) 112 b
  | array {S : Nat → Prop} {SS : Nat → Nat → Prop} (b g : Nat) (cur : Array Value) (p0 p1 p2 : Option Addr) (n0 n1 n2 cap : Nat) (tc : Bool) (a : Option Addr) {l : List Tr} {ys bs : Nat → Nat} {ps : Nat → Option Addr} {ns : Nat → Nat} (hS : S b)
      (hg : 0 < l.length → a = some ⟨g, 0, .none⟩ ∧ S g ∧ g ≠ b ∧ w.heap[g]? = some (.cells cur 130)) (hcap : l.length ≤ cap)
      (hr : ∀ i, i < l.length → cur[i * 2]? = some (.iface (ys i) (.pointer (some ⟨bs i, 0, .none⟩))) ∧ cur[i * 2 + 1]? = some (.slice (ps i) 0 (ns i)))
      (ss : ∀ i, i < l.length → ∀ k, SS i k → S k ∧ k ≠ b ∧ k ≠ g) (dd : ∀ i j, i < j → j < l.length → ∀ k, SS i k → ¬ SS j k)
      (hb : w.heap[b]? = some (.cells #[.slice a l.length cap, .slice p2 0 n2, .slice p0 0 n0, .pointer none, .slice p1 0 n1, .pointer none, .string ByteArray.empty, .int .i64 0, .int .i64 0, .int .i64 0, .int .i64 0, .bool tc] 128)) (aa : ∀ i t, l[i]? = some t → Ast w (SS i) t (ys i) (bs i)) :
      Ast w S (.mk 18 ByteArray.empty 0 false l) 125 b
  | object {S : Nat → Prop} {S1 S2 : Nat → Nat → Prop} (b g : Nat) (cur : Array Value) (p0 p1 p2 : Option Addr) (n0 n1 n2 cap : Nat) (tc : Bool) (a : Option Addr) {l : List Tr} {F : Nat → Fld} (hS : S b)
      (hg : 0 < l.length → a = some ⟨g, 0, .none⟩ ∧ S g ∧ g ≠ b ∧ w.heap[g]? = some (.cells cur 232)) (hcap : l.length ≤ cap)
      (hr : ∀ i t, l[i]? = some t → (F i).at_ w S b g cur (i * 18) t)
      (ss : ∀ i, i < l.length → ∀ k, S1 i k ∨ S2 i k → S k ∧ k ≠ b ∧ k ≠ g ∧ ∀ j, j < l.length → (F j).id ≠ some k) (d12 : ∀ i, i < l.length → ∀ k, S1 i k → ¬ S2 i k) (dd : ∀ i j, i < j → j < l.length → ∀ k, S1 i k ∨ S2 i k → ¬ (S1 j k ∨ S2 j k)) (di : ∀ i j, i < j → j < l.length → ∀ k, (F i).id = some k → (F j).id ≠ some k)
      (hb : w.heap[b]? = some (.cells #[.slice a l.length cap, .slice p2 0 n2, .slice p0 0 n0, .pointer none, .slice p1 0 n1, .pointer none, .string ByteArray.empty, .int .i64 0, .int .i64 0, .int .i64 0, .int .i64 0, .bool tc] 144))
      (a1 : ∀ i k op fl t1 t2, l[i]? = some (.mk k ByteArray.empty op fl [t1, t2]) → Ast w (S1 i) t1 (F i).y1 (F i).b1) (a2 : ∀ i t u, l[i]? = some t → t.subs.getLast? = some u → Ast w (S2 i) u (F i).y2 (F i).b2) :
      Ast w S (.mk 20 ByteArray.empty 0 false l) 139 b

theorem Ast.keep {w w' : World} {S : Nat → Prop} {t : Tr} {y : TypeId} {b : Nat} (h : Ast w S t y b) : ∀ {T : Nat → Prop}, (∀ k, S k → k < w.heap.size → T k) → (∀ k, S k → k < w.heap.size → w'.heap[k]? = w.heap[k]?) → Ast w' T t y b := by
  induction h with
  | null b p0 p1 n0 n1 hS hb => intro T hT hk; exact .null b p0 p1 n0 n1 (hT b hS (heap_lt hb)) ((hk b hS (heap_lt hb)).trans hb)
  | boolean b fl p0 p1 n0 n1 hS hb => intro T hT hk; exact .boolean b fl p0 p1 n0 n1 (hT b hS (heap_lt hb)) ((hk b hS (heap_lt hb)).trans hb)
  | number b tx p0 p1 n0 n1 hS hb => intro T hT hk; exact .number b tx p0 p1 n0 n1 (hT b hS (heap_lt hb)) ((hk b hS (heap_lt hb)).trans hb)
  | str b tx op p0 p1 n0 n1 hS hb => intro T hT hk; exact .str b tx op p0 p1 n0 n1 (hT b hS (heap_lt hb)) ((hk b hS (heap_lt hb)).trans hb)
  | self b p0 p1 n0 n1 hS hb => intro T hT hk; exact .self b p0 p1 n0 n1 (hT b hS (heap_lt hb)) ((hk b hS (heap_lt hb)).trans hb)
  | dollar b p0 p1 n0 n1 hS hb => intro T hT hk; exact .dollar b p0 p1 n0 n1 (hT b hS (heap_lt hb)) ((hk b hS (heap_lt hb)).trans hb)
  | var b tx p0 p1 n0 n1 hS hb => intro T hT hk; exact .var b tx p0 p1 n0 n1 (hT b hS (heap_lt hb)) ((hk b hS (heap_lt hb)).trans hb)
  | @unary S S1 b op p0 p1 n0 n1 t1 y1 b1 hS s1 hb a1 ih1 =>
    intro T hT hk
    exact .unary (S1 := fun k => S1 k ∧ k < w.heap.size) b op p0 p1 n0 n1 (hT b hS (heap_lt hb)) (fun k h => ⟨hT k (s1 k h.1).1 h.2, (s1 k h.1).2⟩) ((hk b hS (heap_lt hb)).trans hb) (ih1 (fun k h hl => ⟨h, hl⟩) (fun k h hl => hk k (s1 k h).1 hl))
  | @binary S S1 S2 b op p0 p1 p2 n0 n1 n2 t1 t2 y1 y2 b1 b2 hS s1 s2 d12 hb a1 a2 ih1 ih2 =>
    intro T hT hk
    exact .binary (S1 := fun k => S1 k ∧ k < w.heap.size) (S2 := fun k => S2 k ∧ k < w.heap.size) b op p0 p1 p2 n0 n1 n2 (hT b hS (heap_lt hb)) (fun k h => ⟨hT k (s1 k h.1).1 h.2, (s1 k h.1).2⟩) (fun k h => ⟨hT k (s2 k h.1).1 h.2, (s2 k h.1).2⟩) (fun k h h' => d12 k h.1 h'.1) ((hk b hS (heap_lt hb)).trans hb) (ih1 (fun k h hl => ⟨h, hl⟩) (fun k h hl => hk k (s1 k h).1 hl)) (ih2 (fun k h hl => ⟨h, hl⟩) (fun k h hl => hk k (s2 k h).1 hl))
  | @if2 S S1 S2 b p0 p1 p2 p3 n0 n1 n2 n3 t1 t2 y1 y2 b1 b2 hS s1 s2 d12 hb a1 a2 ih1 ih2 =>
    intro T hT hk
    exact .if2 (S1 := fun k => S1 k ∧ k < w.heap.size) (S2 := fun k => S2 k ∧ k < w.heap.size) b p0 p1 p2 p3 n0 n1 n2 n3 (hT b hS (heap_lt hb)) (fun k h => ⟨hT k (s1 k h.1).1 h.2, (s1 k h.1).2⟩) (fun k h => ⟨hT k (s2 k h.1).1 h.2, (s2 k h.1).2⟩) (fun k h h' => d12 k h.1 h'.1) ((hk b hS (heap_lt hb)).trans hb) (ih1 (fun k h hl => ⟨h, hl⟩) (fun k h hl => hk k (s1 k h).1 hl)) (ih2 (fun k h hl => ⟨h, hl⟩) (fun k h hl => hk k (s2 k h).1 hl))
  | @if3 S S1 S2 S3 b p0 p1 p2 p3 n0 n1 n2 n3 t1 t2 t3 y1 y2 y3 b1 b2 b3 hS s1 s2 s3 d12 d13 d23 hb a1 a2 a3 ih1 ih2 ih3 =>
    intro T hT hk
    exact .if3 (S1 := fun k => S1 k ∧ k < w.heap.size) (S2 := fun k => S2 k ∧ k < w.heap.size) (S3 := fun k => S3 k ∧ k < w.heap.size) b p0 p1 p2 p3 n0 n1 n2 n3 (hT b hS (heap_lt hb)) (fun k h => ⟨hT k (s1 k h.1).1 h.2, (s1 k h.1).2⟩) (fun k h => ⟨hT k (s2 k h.1).1 h.2, (s2 k h.1).2⟩) (fun k h => ⟨hT k (s3 k h.1).1 h.2, (s3 k h.1).2⟩) (fun k h h' => d12 k h.1 h'.1) (fun k h h' => d13 k h.1 h'.1) (fun k h h' => d23 k h.1 h'.1) ((hk b hS (heap_lt hb)).trans hb) (ih1 (fun k h hl => ⟨h, hl⟩) (fun k h hl => hk k (s1 k h).1 hl)) (ih2 (fun k h hl => ⟨h, hl⟩) (fun k h hl => hk k (s2 k h).1 hl)) (ih3 (fun k h hl => ⟨h, hl⟩) (fun k h hl => hk k (s3 k h).1 hl))
  | @brace S S1 S2 b p0 p1 n0 n1 t1 t2 y1 y2 b1 b2 hS s1 s2 d12 hb a1 a2 ih1 ih2 =>
    intro T hT hk
    exact .brace (S1 := fun k => S1 k ∧ k < w.heap.size) (S2 := fun k => S2 k ∧ k < w.heap.size) b p0 p1 n0 n1 (hT b hS (heap_lt hb)) (fun k h => ⟨hT k (s1 k h.1).1 h.2, (s1 k h.1).2⟩) (fun k h => ⟨hT k (s2 k h.1).1 h.2, (s2 k h.1).2⟩) (fun k h h' => d12 k h.1 h'.1) ((hk b hS (heap_lt hb)).trans hb) (ih1 (fun k h hl => ⟨h, hl⟩) (fun k h hl => hk k (s1 k h).1 hl)) (ih2 (fun k h hl => ⟨h, hl⟩) (fun k h hl => hk k (s2 k h).1 hl))
  | @index S S1 S2 b p0 p1 p2 p3 n0 n1 n2 n3 t1 t2 y1 y2 b1 b2 hS s1 s2 d12 hb a1 a2 ih1 ih2 =>
    intro T hT hk
    exact .index (S1 := fun k => S1 k ∧ k < w.heap.size) (S2 := fun k => S2 k ∧ k < w.heap.size) b p0 p1 p2 p3 n0 n1 n2 n3 (hT b hS (heap_lt hb)) (fun k h => ⟨hT k (s1 k h.1).1 h.2, (s1 k h.1).2⟩) (fun k h => ⟨hT k (s2 k h.1).1 h.2, (s2 k h.1).2⟩) (fun k h h' => d12 k h.1 h'.1) ((hk b hS (heap_lt hb)).trans hb) (ih1 (fun k h hl => ⟨h, hl⟩) (fun k h hl => hk k (s1 k h).1 hl)) (ih2 (fun k h hl => ⟨h, hl⟩) (fun k h hl => hk k (s2 k h).1 hl))
  | @dot S S1 b c tx p0 p1 p2 p3 n0 n1 n2 n3 t1 y1 b1 hS hc hbc s1 hb hid a1 ih1 =>
    intro T hT hk
    exact .dot (S1 := fun k => S1 k ∧ k < w.heap.size) b c tx p0 p1 p2 p3 n0 n1 n2 n3 (hT b hS (heap_lt hb)) (hT c hc (heap_lt hid)) hbc (fun k h => ⟨hT k (s1 k h.1).1 h.2, (s1 k h.1).2⟩) ((hk b hS (heap_lt hb)).trans hb) ((hk c hc (heap_lt hid)).trans hid) (ih1 (fun k h hl => ⟨h, hl⟩) (fun k h hl => hk k (s1 k h).1 hl))
  | @error S S1 b p0 p1 n0 n1 t1 y1 b1 hS s1 hb a1 ih1 =>
    intro T hT hk
    exact .error (S1 := fun k => S1 k ∧ k < w.heap.size) b p0 p1 n0 n1 (hT b hS (heap_lt hb)) (fun k h => ⟨hT k (s1 k h.1).1 h.2, (s1 k h.1).2⟩) ((hk b hS (heap_lt hb)).trans hb) (ih1 (fun k h hl => ⟨h, hl⟩) (fun k h hl => hk k (s1 k h).1 hl))
  | @parens S S1 b p0 p1 p2 n0 n1 n2 t1 y1 b1 hS s1 hb a1 ih1 =>
    intro T hT hk
    exact .parens (S1 := fun k => S1 k ∧ k < w.heap.size) b p0 p1 p2 n0 n1 n2 (hT b hS (heap_lt hb)) (fun k h => ⟨hT k (s1 k h.1).1 h.2, (s1 k h.1).2⟩) ((hk b hS (heap_lt hb)).trans hb) (ih1 (fun k h hl => ⟨h, hl⟩) (fun k h hl => hk k (s1 k h).1 hl))
  | @apply S S1 SS b g cur p0 p1 p2 p3 p4 p5 n0 n1 n2 n3 n4 n5 cap tc a t1 y1 b1 l ys bs ps ns hS s1 hg hcap hr ss dd hb a1 aa ih1 iha =>
    intro T hT hk
    exact .apply (S1 := fun k => S1 k ∧ k < w.heap.size) (SS := fun i k => SS i k ∧ k < w.heap.size) b g cur p0 p1 p2 p3 p4 p5 n0 n1 n2 n3 n4 n5 cap tc a (hT b hS (heap_lt hb)) (fun k h => ⟨hT k (s1 k h.1).1 h.2, (s1 k h.1).2⟩) (fun h0 => ⟨(hg h0).1, hT g (hg h0).2.1 (heap_lt (hg h0).2.2.2), (hg h0).2.2.1, (hk g (hg h0).2.1 (heap_lt (hg h0).2.2.2)).trans (hg h0).2.2.2⟩) hcap hr
      (fun i hi k h => ⟨hT k (ss i hi k h.1).1 h.2, (ss i hi k h.1).2.1, (ss i hi k h.1).2.2.1, fun h' => (ss i hi k h.1).2.2.2 h'.1⟩) (fun i j hij hj k h h' => dd i j hij hj k h.1 h'.1) ((hk b hS (heap_lt hb)).trans hb) (ih1 (fun k h hl => ⟨h, hl⟩) (fun k h hl => hk k (s1 k h).1 hl))
      (fun i t ht => iha i t ht (fun k h hl => ⟨h, hl⟩) (fun k h hl => hk k (ss i (List.getElem?_eq_some_iff.1 ht).1 k h).1 hl))
  | @array S SS b g cur p0 p1 p2 n0 n1 n2 cap tc a l ys bs ps ns hS hg hcap hr ss dd hb aa iha =>
    intro T hT hk
    exact .array (SS := fun i k => SS i k ∧ k < w.heap.size) b g cur p0 p1 p2 n0 n1 n2 cap tc a (hT b hS (heap_lt hb)) (fun h0 => ⟨(hg h0).1, hT g (hg h0).2.1 (heap_lt (hg h0).2.2.2), (hg h0).2.2.1, (hk g (hg h0).2.1 (heap_lt (hg h0).2.2.2)).trans (hg h0).2.2.2⟩) hcap hr
      (fun i hi k h => ⟨hT k (ss i hi k h.1).1 h.2, (ss i hi k h.1).2⟩) (fun i j hij hj k h h' => dd i j hij hj k h.1 h'.1) ((hk b hS (heap_lt hb)).trans hb)
      (fun i t ht => iha i t ht (fun k h hl => ⟨h, hl⟩) (fun k h hl => hk k (ss i (List.getElem?_eq_some_iff.1 ht).1 k h).1 hl))
  | @object S S1 S2 b g cur p0 p1 p2 n0 n1 n2 cap tc a l F hS hg hcap hr ss d12 dd di hb a1 a2 ih1 ih2 =>
    intro T hT hk
    exact .object (S1 := fun i k => S1 i k ∧ k < w.heap.size) (S2 := fun i k => S2 i k ∧ k < w.heap.size) b g cur p0 p1 p2 n0 n1 n2 cap tc a (hT b hS (heap_lt hb)) (fun h0 => ⟨(hg h0).1, hT g (hg h0).2.1 (heap_lt (hg h0).2.2.2), (hg h0).2.2.1, (hk g (hg h0).2.1 (heap_lt (hg h0).2.2.2)).trans (hg h0).2.2.2⟩) hcap (fun i t ht => Fld.at_keep hT hk (hr i t ht))
      (fun i hi k h => by
        have h2 : k < w.heap.size := h.elim (·.2) (·.2)
        have h3 := ss i hi k (h.imp (·.1) (·.1))
        exact ⟨hT k h3.1 h2, h3.2⟩) (fun i hi k h h' => d12 i hi k h.1 h'.1) (fun i j hij hj k h h' => dd i j hij hj k (h.imp (·.1) (·.1)) (h'.imp (·.1) (·.1))) di ((hk b hS (heap_lt hb)).trans hb)
      (fun i k op fl t1 t2 ht => ih1 i k op fl t1 t2 ht (fun k h hl => ⟨h, hl⟩) (fun k h hl => hk k (ss i (List.getElem?_eq_some_iff.1 ht).1 k (.inl h)).1 hl))
      (fun i t u ht hu => ih2 i t u ht hu (fun k h hl => ⟨h, hl⟩) (fun k h hl => hk k (ss i (List.getElem?_eq_some_iff.1 ht).1 k (.inr h)).1 hl))
theorem Ast.bel {w w' : World} {S : Nat → Prop} {t : Tr} {y : TypeId} {b : Nat} (h : Ast w S t y b) (hb : Below w.heap.size w w') : Ast w' S t y b := h.keep (fun _ h _ => h) (fun k _ hk => hb.block k hk)
theorem Ast.mono {w : World} {S T : Nat → Prop} {t : Tr} {y : TypeId} {b : Nat} (h : Ast w S t y b) (hT : ∀ k, S k → k < w.heap.size → T k) : Ast w T t y b := h.keep hT (fun _ _ _ => rfl)
end Go.Proofs.YtceepfnjdkfjnaaFmt
