/- Signed numbers in bytes, two's complement: plain facts. -/
import Derived.Test.YtdnepnnkpaoaaaaDerP
namespace Go.Proofs.Ytdnepnnkpaoaaaa
open Go.RowKit

/-- The signed number that bytes tell. -/
def sgn (xs : List Int) : Int := if 128 ≤ xs.getD 0 0 then num xs - 256 ^ xs.length else num xs

/-- Contents of an integer: at least one byte, the first nine bits not alike. -/
def isInteger : List Int → Bool
  | [] => false
  | [_] => true
  | x :: y :: _ => !(x == 0 && decide (y < 128)) && !(x == 255 && decide (128 ≤ y))

theorem lead {xs : List Int} (hx : Byt xs) (h : 0 < xs.length) : num xs / 256 ^ (xs.length - 1) = xs.getD 0 0 := by
  have := lead_zero hx h (Nat.le_refl _)
  rwa [List.take_length] at this

theorem or_i64 {a x : Int} (h0 : 0 ≤ x) (h1 : x < 256) (ha : -9223372036854775808 ≤ a) (hb : a ≤ 9223372036854775807) (hd : a % 256 = 0) : bits .or .i64 a x = a + x := by
  show IntKind.i64.wrap ((BitVec.ofInt 64 a ||| BitVec.ofInt 64 x).toNat : Int) = _
  have e1 : (BitVec.ofInt 64 a).toNat = (a % 18446744073709551616).toNat := by simp [BitVec.toNat_ofInt]
  have e2 : (BitVec.ofInt 64 x).toNat = x.toNat := by simp [BitVec.toNat_ofInt]; omega
  rw [BitVec.toNat_or, e1, e2, nat_join 8 (a % 18446744073709551616).toNat x.toNat (by omega) (by omega), IntKind.wrap_i64]
  omega

/-- One round of the loop: shift by a byte, and the next byte in. -/
theorem signed_step {r x : Int} (h2 : 0 ≤ x) (h3 : x < 256) : bits .or .i64 (wrap64 (r * 256)) x = wrap64 (r * 256 + x) := by
  have hw : wrap64 (r * 256) % 256 = 0 := by unfold wrap64; omega
  rw [or_i64 h2 h3 (by unfold wrap64; omega) (by unfold wrap64; omega) hw]
  unfold wrap64
  omega

theorem sgn_shift {xs : List Int} {L : Nat} (hx : Byt xs) (hL : xs.length = L) (h0 : 0 < L) (h8 : L ≤ 8) : wrap64 (wrap64 (num xs) * 2 ^ (64 - 8 * L)) / 2 ^ (64 - 8 * L) = sgn xs := by
  have hl := lead hx (by omega)
  obtain ⟨n0, n1⟩ := num_bound xs hx
  have hb := hx.getD 0
  unfold sgn
  rw [hL] at *
  generalize num xs = v at *
  generalize xs.getD 0 0 = y at *
  have : L = 1 ∨ L = 2 ∨ L = 3 ∨ L = 4 ∨ L = 5 ∨ L = 6 ∨ L = 7 ∨ L = 8 := by omega
  rcases this with rfl | rfl | rfl | rfl | rfl | rfl | rfl | rfl <;> simp only [Nat.reduceMul, Nat.reduceSub, Int.reducePow] at * <;> unfold wrap64 <;> split <;> omega
end Go.Proofs.Ytdnepnnkpaoaaaa
