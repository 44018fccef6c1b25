/- Plain facts on bytes and the numbers that they tell, the highest first. -/
import Derived.Laws.BitsAllLaws
import Derived.Laws.BitsLemmas
import Derived.WalkKit
namespace Go.Proofs.Ytdnepnnkpaoaaaa
open Go.RowKit

/-- The number that bytes tell, the highest first. -/
def num (xs : List Int) : Int := xs.foldl (fun a b => a * 256 + b) 0

theorem num_nil : num [] = 0 := rfl
theorem num_one (x : Int) : num [x] = x := by simp [num]
theorem num_snoc (xs : List Int) (x : Int) : num (xs ++ [x]) = num xs * 256 + x := by simp [num, List.foldl_append]

theorem w16 {a : Int} (h0 : 0 ≤ a) (h1 : a < 65536) : IntKind.u16.wrap a = a := by rw [IntKind.wrap_u16]; omega
theorem w32 {a : Int} (h0 : 0 ≤ a) (h1 : a < 4294967296) : IntKind.u32.wrap a = a := by rw [IntKind.wrap_u32']; omega
theorem w64 {a : Int} (h0 : 0 ≤ a) (h1 : a < 18446744073709551616) : IntKind.u64.wrap a = a := by rw [IntKind.wrap_u64]; omega
theorem wi64 {a : Int} (h0 : -9223372036854775808 ≤ a) (h1 : a ≤ 9223372036854775807) : IntKind.i64.wrap a = a := by rw [IntKind.wrap_i64]; omega
theorem or_u16 {a b : Int} (j : Nat) (ha : 0 ≤ a) (ha' : a < 65536) (hb : 0 ≤ b) (hb' : b < 65536) (hd : a.toNat % 2 ^ j = 0) (hj : b.toNat < 2 ^ j) : bits .or .u16 a b = a + b := by
  rw [u16_or a b ha ha' hb hb', nat_join j a.toNat b.toNat hd hj]; omega
theorem or_u32 {a b : Int} (j : Nat) (ha : 0 ≤ a) (ha' : a < 4294967296) (hb : 0 ≤ b) (hb' : b < 4294967296) (hd : a.toNat % 2 ^ j = 0) (hj : b.toNat < 2 ^ j) : bits .or .u32 a b = a + b := by
  rw [u32_or a b ha ha' hb hb', nat_join j a.toNat b.toNat hd hj]; omega
theorem or_u64 {a b : Int} (j : Nat) (ha : 0 ≤ a) (ha' : a < 18446744073709551616) (hb : 0 ≤ b) (hb' : b < 18446744073709551616) (hd : a.toNat % 2 ^ j = 0) (hj : b.toNat < 2 ^ j) : bits .or .u64 a b = a + b := by
  rw [u64_or a b ha ha' hb hb', nat_join j a.toNat b.toNat hd hj]; omega

theorem num_take_succ {xs : List Int} {k : Nat} (h : k < xs.length) : num (xs.take (k + 1)) = num (xs.take k) * 256 + xs.getD k 0 := by
  rw [List.take_succ_eq_append_getElem h, num_snoc, List.getD_eq_getElem?_getD, List.getElem?_eq_getElem h]; rfl
theorem num_bound (xs : List Int) (h : ∀ x ∈ xs, 0 ≤ x ∧ x < 256) : 0 ≤ num xs ∧ num xs < 256 ^ xs.length := by
  have key : ∀ (ys : List Int) (a : Int) (k : Nat), (∀ x ∈ ys, 0 ≤ x ∧ x < 256) → 0 ≤ a → a < 256 ^ k → 0 ≤ ys.foldl (fun a b => a * 256 + b) a ∧ ys.foldl (fun a b => a * 256 + b) a < 256 ^ (k + ys.length) := by
    intro ys
    induction ys with
    | nil => intro a k _ h0 h1; simpa using ⟨h0, h1⟩
    | cons y ys ih =>
      intro a k hy h0 h1
      have hy0 := hy y (by simp)
      have := ih (a * 256 + y) (k + 1) (fun x hx => hy x (by simp [hx])) (by omega) (by rw [Int.pow_succ]; omega)
      rw [List.foldl_cons, List.length_cons, show k + (ys.length + 1) = k + 1 + ys.length by omega]
      exact this
  have := key xs 0 0 h (by omega) (by simp)
  rw [Nat.zero_add] at this
  exact this
theorem num_small (xs : List Int) (n : Nat) (h : ∀ x ∈ xs, 0 ≤ x ∧ x < 256) (hn : xs.length ≤ n) : 0 ≤ num xs ∧ num xs < 256 ^ n := by
  obtain ⟨h0, h1⟩ := num_bound xs h
  refine ⟨h0, Int.lt_of_lt_of_le h1 ?_⟩
  have : (256 : Nat) ^ xs.length ≤ 256 ^ n := Nat.pow_le_pow_right (by omega) hn
  have h2 := Int.ofNat_le.mpr this
  rw [Int.natCast_pow, Int.natCast_pow] at h2
  exact h2

theorem ofInt64 (a : Nat) (ha : a < 9223372036854775808) : (BitVec.ofInt 64 (a : Int)).toNat = a := by
  rw [BitVec.ofInt_natCast, BitVec.toNat_ofNat]; exact Nat.mod_eq_of_lt (by omega)
theorem i64_or_nat (a b : Nat) (ha : a < 9223372036854775808) (hb : b < 9223372036854775808) : bits .or .i64 (a : Int) (b : Int) = ((a ||| b : Nat) : Int) := by
  have hx : a ||| b < 2 ^ 63 := Nat.or_lt_two_pow (by omega) (by omega)
  show IntKind.i64.wrap ((BitVec.ofInt 64 (a : Int) ||| BitVec.ofInt 64 (b : Int)).toNat : Int) = _
  rw [BitVec.toNat_or, ofInt64 a ha, ofInt64 b hb, IntKind.wrap_i64]
  omega
theorem constructed_eq (t : Int) (h0 : 0 ≤ t) (h1 : t ≤ 255) : wrap64 (bits .or .u8 t 32) = bits .or .i64 t 32 := by
  obtain ⟨n, rfl⟩ := Int.eq_ofNat_of_zero_le h0
  have e1 := u8_or_nat n 32 (by omega) (by omega)
  have e2 := i64_or_nat n 32 (by omega) (by omega)
  have hx : n ||| 32 < 2 ^ 8 := Nat.or_lt_two_pow (by omega) (by omega)
  simp only [Int.cast_ofNat_Int] at e1 e2
  rw [e1, e2]
  unfold wrap64
  omega
end Go.Proofs.Ytdnepnnkpaoaaaa
