/-
  utf16.IsSurrogate, utf16.DecodeRune. Conditions: none; a pair.
-/
import Derived.Test.YtceepfnjdkfjnaaFmtTree
import Derived.Laws.Bits64
namespace Go.Proofs.YtceepfnjdkfjnaaFmt
open Go.ChangeShapes Go.WideShapes Go.ChangeAt Go.RowKit Go.Joins

theorem surr_yes (n : Int) (h1 : 55296 ≤ n) (h2 : n < 57344) (w : World) : Calls Tryf.prog 49 #[.int .i32 n] w fun e w' => e = .returned (.bool true) ∧ w = w' := by
  go_enter Tryf.func49, Tryf.ntmps49
  go_wp2
  go_ret
  exact ⟨rfl, rfl⟩
theorem surr_no (n : Int) (h : ¬ (55296 ≤ n ∧ n < 57344)) (w : World) : Calls Tryf.prog 49 #[.int .i32 n] w fun e w' => e = .returned (.bool false) ∧ w = w' := by
  by_cases h1 : 55296 ≤ n
  · have h2 : ¬ n < 57344 := fun x => h ⟨h1, x⟩
    clear h
    go_enter Tryf.func49, Tryf.ntmps49
    go_wp2
    go_ret
    exact ⟨rfl, rfl⟩
  · clear h
    go_enter Tryf.func49, Tryf.ntmps49
    go_wp2
    go_ret
    exact ⟨rfl, rfl⟩
theorem or10 (a b : Nat) (ha : a < 1024) (hb : b < 1024) : bits .or .i32 ((a * 1024 : Nat) : Int) (b : Int) = ((a * 1024 + b : Nat) : Int) := by
  have e : a * 1024 ||| b = a * 1024 + b := by
    have := Nat.two_pow_add_eq_or_of_lt (i := 10) (b := b) (by omega) a
    rw [show 2 ^ 10 * a = a * 1024 by omega] at this
    exact this.symm
  show IntKind.i32.wrap ((BitVec.ofInt 32 ((a * 1024 : Nat) : Int) ||| BitVec.ofInt 32 (b : Int)).toNat : Int) = _
  rw [BitVec.toNat_or, BitVec.ofInt_natCast, BitVec.toNat_ofNat, BitVec.ofInt_natCast, BitVec.toNat_ofNat, Nat.mod_eq_of_lt (show a * 1024 < 2 ^ 32 by omega), Nat.mod_eq_of_lt (show b < 2 ^ 32 by omega), e, IntKind.wrap_i32]
  omega
theorem pair_any (n m : Int) (h1 : 55296 ≤ n) (h2 : n < 56320) (h3 : 56320 ≤ m) (h4 : m < 57344) (w : World) : Calls Tryf.prog 50 #[.int .i32 n, .int .i32 m] w fun e w' => e = .returned (.int .i32 (65536 + (n - 55296) * 1024 + m - 56320)) ∧ w = w' := by
  have e : bits .or .i32 ((n - 55296) * 1024) (m - 56320) = (n - 55296) * 1024 + (m - 56320) := by
    obtain ⟨a, ha⟩ : ∃ a : Nat, n - 55296 = a := ⟨(n - 55296).toNat, by omega⟩
    obtain ⟨b, hb⟩ : ∃ b : Nat, m - 56320 = b := ⟨(m - 56320).toNat, by omega⟩
    rw [ha, hb]
    have := or10 a b (by omega) (by omega)
    rw [show ((a * 1024 : Nat) : Int) = (a : Int) * 1024 by omega] at this
    rw [this]
    omega
  go_enter Tryf.func50, Tryf.ntmps50
  go_wp2
  go_ret
  exact ⟨by show Ending.returned (Value.int IntKind.i32 _) = _; congr 2; omega, rfl⟩
end Go.Proofs.YtceepfnjdkfjnaaFmt
