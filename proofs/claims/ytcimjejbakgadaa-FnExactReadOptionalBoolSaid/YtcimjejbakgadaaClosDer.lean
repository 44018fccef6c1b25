/- The contracts of the continuations of the ASN.1 builders. (Printed by gen_der.py.) -/
import Derived.Test.YtcimjejbakgadaaAddDer
namespace Go.Proofs.Ytcimjejbakgadaa
open Go.RowKit
set_option linter.unusedVariables false

/-- A truth in a byte. -/
def bByte (v : Bool) : Int := if v then 255 else 0
theorem and_i64 {x : Int} (h0 : -9223372036854775808 ≤ x) (h1 : x ≤ 9223372036854775807) : bits .and .i64 x 255 = x % 256 := by
  show IntKind.i64.wrap ((BitVec.ofInt 64 x &&& BitVec.ofInt 64 255).toNat : Int) = _
  have e1 : (BitVec.ofInt 64 x).toNat = (x % 18446744073709551616).toNat := by simp [BitVec.toNat_ofInt]
  have e2 : (BitVec.ofInt 64 255).toNat = 2 ^ 8 - 1 := by rfl
  rw [BitVec.toNat_and, e1, e2, Nat.and_two_pow_sub_one_eq_mod, IntKind.wrap_i64]
  omega
theorem byte_i64 {v : Int} (h0 : -9223372036854775808 ≤ v) (h1 : v ≤ 9223372036854775807) {q : Nat} (hq : 1 ≤ q) (hq9 : q ≤ 9) : bits .and .i64 (v / 2 ^ ((q - 1) * 8)) 255 % 256 = v / 256 ^ (q - 1) % 256 := by
  have : q = 1 ∨ q = 2 ∨ q = 3 ∨ q = 4 ∨ q = 5 ∨ q = 6 ∨ q = 7 ∨ q = 8 ∨ q = 9 := by omega
  rcases this with rfl | rfl | rfl | rfl | rfl | rfl | rfl | rfl | rfl <;> simp only [Nat.reduceSub, Nat.reduceMul, Int.reducePow] <;> rw [and_i64 (by omega) (by omega)] <;> omega
theorem and_u64 {x : Int} (h0 : 0 ≤ x) (h1 : x < 18446744073709551616) : bits .and .u64 x 255 = x % 256 := by
  show IntKind.u64.wrap ((BitVec.ofInt 64 x &&& BitVec.ofInt 64 255).toNat : Int) = _
  have e1 : (BitVec.ofInt 64 x).toNat = (x % 18446744073709551616).toNat := by simp [BitVec.toNat_ofInt]
  have e2 : (BitVec.ofInt 64 255).toNat = 2 ^ 8 - 1 := by rfl
  rw [BitVec.toNat_and, e1, e2, Nat.and_two_pow_sub_one_eq_mod, IntKind.wrap_u64]
  omega
theorem byte_u64 {v : Int} (h0 : 0 ≤ v) (h1 : v < 18446744073709551616) {q : Nat} (hq : 1 ≤ q) (hq9 : q ≤ 9) : bits .and .u64 (v / 2 ^ ((q - 1) * 8)) 255 % 256 = v / 256 ^ (q - 1) % 256 := by
  have : q = 1 ∨ q = 2 ∨ q = 3 ∨ q = 4 ∨ q = 5 ∨ q = 6 ∨ q = 7 ∨ q = 8 ∨ q = 9 := by omega
  rcases this with rfl | rfl | rfl | rfl | rfl | rfl | rfl | rfl | rfl <;> simp only [Nat.reduceSub, Nat.reduceMul, Int.reducePow] <;> rw [and_u64 (by omega) (by omega)] <;> omega
end Go.Proofs.Ytcimjejbakgadaa
