/- The contracts of the reference's integer, IntOf, and of isInt. -/
import Derived.Test.YtndknmchhhljcaaInt
import Derived.Test.YtndknmchhhljcaaSpecOf
namespace Go.Proofs.Ytndknmchhhljcaa
open Go.RowKit
set_option linter.unusedVariables false

/-- The number as the reference sums it: on from 0, or from -1. -/
def acc (s : Int) (j : Nat) (xs : List Int) : Int := num (xs.take j) - s * 256 ^ j

theorem acc_zero (s : Int) (xs : List Int) : acc s 0 xs = - s := by simp [acc, num]
theorem acc_succ {s : Int} {j : Nat} {xs : List Int} (h : j < xs.length) : acc s (j + 1) xs = acc s j xs * 256 + xs.getD j 0 := by
  unfold acc
  rw [num_take_succ h, Int.pow_succ, ← Int.mul_assoc, Int.sub_mul]
  omega
theorem acc_step {r x : Int} : wrap64 (wrap64 (wrap64 r * 256) + x) = wrap64 (r * 256 + x) := by
  unfold wrap64; omega
theorem acc_done {xs : List Int} (hx : Byt xs) (h0 : 0 < xs.length) (h8 : xs.length ≤ 8) : wrap64 (acc (if 128 ≤ xs.getD 0 0 then 1 else 0) xs.length xs) = sgn xs := by
  have hl := lead hx h0
  obtain ⟨n0, n1⟩ := num_bound xs hx
  have hb := hx.getD 0
  unfold sgn acc
  rw [List.take_length]
  generalize hL : xs.length = L at *
  generalize num xs = v at *
  generalize xs.getD 0 0 = y at *
  have : L = 1 ∨ L = 2 ∨ L = 3 ∨ L = 4 ∨ L = 5 ∨ L = 6 ∨ L = 7 ∨ L = 8 := by omega
  rcases this with rfl | rfl | rfl | rfl | rfl | rfl | rfl | rfl <;> simp only [Nat.reduceSub, Int.reducePow] at * <;> unfold wrap64 <;> split <;> omega

/-- What IntOf tells. -/
def intVal (xs : List Int) : Option Int := if isInteger xs = true ∧ xs.length ≤ 8 then some (sgn xs) else none
def intEnd : Option Int → Ending
  | some v => .returned (.tuple #[.int .i64 v, .bool true])
  | none => .returned (.tuple #[.int .i64 0, .bool false])

end Go.Proofs.Ytndknmchhhljcaa
