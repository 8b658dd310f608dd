/-
  'c | 0x20' and 'c ^ 0x20' on a rune, as arithmetic.
-/
import Derived.Test.Qxb6619837aProg
import Derived.WalkKit
import Derived.ProofKit
import Derived.Laws.BitsLemmas
import Derived.Laws.BitsAllLaws
namespace Go.Proofs.Qxb6619837a
open Go.RowKit

theorem or_one (a : Nat) : a ||| 1 = 2 * (a / 2) + 1 := by
  have h1 := Nat.or_div_two_pow (a := a) (b := 1) (n := 1)
  have h2 := Nat.or_mod_two_pow (a := a) (b := 1) (n := 1)
  simp at h1 h2
  have h3 : a % 2 ||| 1 = 1 := by rcases Nat.mod_two_eq_zero_or_one a with h | h <;> rw [h] <;> rfl
  omega

theorem xor_one (a : Nat) : a ^^^ 1 = 2 * (a / 2) + (1 - a % 2) := by
  have h1 := Nat.xor_div_two_pow (a := a) (b := 1) (n := 1)
  have h2 := Nat.xor_mod_two_pow (a := a) (b := 1) (n := 1)
  simp at h1 h2
  have h3 : (a % 2 ^^^ 1) = 1 - a % 2 := by rcases Nat.mod_two_eq_zero_or_one a with h | h <;> rw [h] <;> rfl
  omega

theorem or_32 (u : Nat) : u ||| 32 = 64 * (u / 64) + 32 + u % 32 := by
  have h1 := Nat.or_div_two_pow (a := u) (b := 32) (n := 5)
  have h2 := Nat.or_mod_two_pow (a := u) (b := 32) (n := 5)
  simp at h1 h2
  rw [or_one] at h1
  omega

theorem xor_32 (u : Nat) : u ^^^ 32 = 64 * (u / 64) + 32 * (1 - u / 32 % 2) + u % 32 := by
  have h1 := Nat.xor_div_two_pow (a := u) (b := 32) (n := 5)
  have h2 := Nat.xor_mod_two_pow (a := u) (b := 32) (n := 5)
  simp at h1 h2
  rw [xor_one] at h1
  omega

theorem i32_or (c : Int) (h0 : -2147483648 ≤ c) (h1 : c ≤ 2147483647) : bits .or .i32 c 32 = 64 * (c / 64) + 32 + c % 32 := by
  show IntKind.i32.wrap ((BitVec.ofInt 32 c ||| BitVec.ofInt 32 32).toNat : Int) = _
  have e : (BitVec.ofInt 32 32).toNat = 32 := by decide
  rw [BitVec.toNat_or, e, or_32, BitVec.toNat_ofInt, IntKind.wrap_i32]
  omega

theorem i32_xor (c : Int) (h0 : -2147483648 ≤ c) (h1 : c ≤ 2147483647) : bits .xor .i32 c 32 = 64 * (c / 64) + 32 * (1 - c / 32 % 2) + c % 32 := by
  show IntKind.i32.wrap ((BitVec.ofInt 32 c ^^^ BitVec.ofInt 32 32).toNat : Int) = _
  have e : (BitVec.ofInt 32 32).toNat = 32 := by decide
  rw [BitVec.toNat_xor, e, xor_32, BitVec.toNat_ofInt, IntKind.wrap_i32]
  omega
end Go.Proofs.Qxb6619837a
