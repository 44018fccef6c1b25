/- Plain facts on bytes and the numbers that they tell, the highest first. -/
/- DER's header in plain Lean: where the first element of some bytes lies. -/
import Derived.Laws.BitsAllLaws
import Derived.Laws.BitsLemmas
import Derived.WalkKit
import Derived.Test.YtdnepnnkpaoaaaaBase
namespace Go.Proofs.Ytdnepnnkpaoaaaa
open Go.RowKit

/-- The number that bytes tell, the highest first. -/
def num (xs : List Int) : Int := xs.foldl (fun a b => a * 256 + b) 0

theorem num_nil : num [] = 0 := rfl
theorem num_one (x : Int) : num [x] = x := by simp [num]
theorem num_snoc (xs : List Int) (x : Int) : num (xs ++ [x]) = num xs * 256 + x := by simp [num, List.foldl_append]

theorem w16 {a : Int} (h0 : 0 ≤ a) (h1 : a < 65536) : IntKind.u16.wrap a = a := by rw [IntKind.wrap_u16]; omega
theorem w32 {a : Int} (h0 : 0 ≤ a) (h1 : a < 4294967296) : IntKind.u32.wrap a = a := by rw [IntKind.wrap_u32']; omega
theorem w64 {a : Int} (h0 : 0 ≤ a) (h1 : a < 18446744073709551616) : IntKind.u64.wrap a = a := by rw [IntKind.wrap_u64]; omega
theorem wi64 {a : Int} (h0 : -9223372036854775808 ≤ a) (h1 : a ≤ 9223372036854775807) : IntKind.i64.wrap a = a := by rw [IntKind.wrap_i64]; omega
theorem or_u16 {a b : Int} (j : Nat) (ha : 0 ≤ a) (ha' : a < 65536) (hb : 0 ≤ b) (hb' : b < 65536) (hd : a.toNat % 2 ^ j = 0) (hj : b.toNat < 2 ^ j) : bits .or .u16 a b = a + b := by
  rw [u16_or a b ha ha' hb hb', nat_join j a.toNat b.toNat hd hj]; omega
theorem or_u32 {a b : Int} (j : Nat) (ha : 0 ≤ a) (ha' : a < 4294967296) (hb : 0 ≤ b) (hb' : b < 4294967296) (hd : a.toNat % 2 ^ j = 0) (hj : b.toNat < 2 ^ j) : bits .or .u32 a b = a + b := by
  rw [u32_or a b ha ha' hb hb', nat_join j a.toNat b.toNat hd hj]; omega
theorem or_u64 {a b : Int} (j : Nat) (ha : 0 ≤ a) (ha' : a < 18446744073709551616) (hb : 0 ≤ b) (hb' : b < 18446744073709551616) (hd : a.toNat % 2 ^ j = 0) (hj : b.toNat < 2 ^ j) : bits .or .u64 a b = a + b := by
  rw [u64_or a b ha ha' hb hb', nat_join j a.toNat b.toNat hd hj]; omega

theorem num_take_succ {xs : List Int} {k : Nat} (h : k < xs.length) : num (xs.take (k + 1)) = num (xs.take k) * 256 + xs.getD k 0 := by
  rw [List.take_succ_eq_append_getElem h, num_snoc, List.getD_eq_getElem?_getD, List.getElem?_eq_getElem h]; rfl
theorem num_bound (xs : List Int) (h : ∀ x ∈ xs, 0 ≤ x ∧ x < 256) : 0 ≤ num xs ∧ num xs < 256 ^ xs.length := by
  have key : ∀ (ys : List Int) (a : Int) (k : Nat), (∀ x ∈ ys, 0 ≤ x ∧ x < 256) → 0 ≤ a → a < 256 ^ k → 0 ≤ ys.foldl (fun a b => a * 256 + b) a ∧ ys.foldl (fun a b => a * 256 + b) a < 256 ^ (k + ys.length) := by
    intro ys
    induction ys with
    | nil => intro a k _ h0 h1; simpa using ⟨h0, h1⟩
    | cons y ys ih =>
      intro a k hy h0 h1
      have hy0 := hy y (by simp)
      have := ih (a * 256 + y) (k + 1) (fun x hx => hy x (by simp [hx])) (by omega) (by rw [Int.pow_succ]; omega)
      rw [List.foldl_cons, List.length_cons, show k + (ys.length + 1) = k + 1 + ys.length by omega]
      exact this
  have := key xs 0 0 h (by omega) (by simp)
  rw [Nat.zero_add] at this
  exact this
theorem num_small (xs : List Int) (n : Nat) (h : ∀ x ∈ xs, 0 ≤ x ∧ x < 256) (hn : xs.length ≤ n) : 0 ≤ num xs ∧ num xs < 256 ^ n := by
  obtain ⟨h0, h1⟩ := num_bound xs h
  refine ⟨h0, Int.lt_of_lt_of_le h1 ?_⟩
  have : (256 : Nat) ^ xs.length ≤ 256 ^ n := Nat.pow_le_pow_right (by omega) hn
  have h2 := Int.ofNat_le.mpr this
  rw [Int.natCast_pow, Int.natCast_pow] at h2
  exact h2

theorem ofInt64 (a : Nat) (ha : a < 9223372036854775808) : (BitVec.ofInt 64 (a : Int)).toNat = a := by
  rw [BitVec.ofInt_natCast, BitVec.toNat_ofNat]; exact Nat.mod_eq_of_lt (by omega)
theorem i64_or_nat (a b : Nat) (ha : a < 9223372036854775808) (hb : b < 9223372036854775808) : bits .or .i64 (a : Int) (b : Int) = ((a ||| b : Nat) : Int) := by
  have hx : a ||| b < 2 ^ 63 := Nat.or_lt_two_pow (by omega) (by omega)
  show IntKind.i64.wrap ((BitVec.ofInt 64 (a : Int) ||| BitVec.ofInt 64 (b : Int)).toNat : Int) = _
  rw [BitVec.toNat_or, ofInt64 a ha, ofInt64 b hb, IntKind.wrap_i64]
  omega
theorem constructed_eq (t : Int) (h0 : 0 ≤ t) (h1 : t ≤ 255) : wrap64 (bits .or .u8 t 32) = bits .or .i64 t 32 := by
  obtain ⟨n, rfl⟩ := Int.eq_ofNat_of_zero_le h0
  have e1 := u8_or_nat n 32 (by omega) (by omega)
  have e2 := i64_or_nat n 32 (by omega) (by omega)
  have hx : n ||| 32 < 2 ^ 8 := Nat.or_lt_two_pow (by omega) (by omega)
  simp only [Int.cast_ofNat_Int] at e1 e2
  rw [e1, e2]
  unfold wrap64
  omega
end Go.Proofs.Ytdnepnnkpaoaaaa

namespace Go.Proofs.Ytdnepnnkpaoaaaa
open Go.RowKit

/-- The length that is told in m bytes: 1 to 4 of them, no zero ahead, not below 128. -/
def longOf (s : List Int) (m : Nat) : Option Nat :=
  if m = 0 ∨ 4 < m ∨ s.length < m ∨ s.getD 0 0 = 0 ∨ num (s.take m) < 128 then none else some (num (s.take m)).toNat

/-- Where the first element lies: its tag, where its contents begin, where it ends. -/
def first : List Int → Option (Int × Nat × Nat)
  | t :: l :: r =>
    if t % 32 = 31 then none else
    if l < 128 then (if r.length + 2 < l.toNat + 2 then none else some (t, 2, l.toNat + 2)) else
    match longOf r (l - 128).toNat with
    | none => none
    | some k => if r.length + 2 < (l - 128).toNat + 2 + k then none else some (t, (l - 128).toNat + 2, (l - 128).toNat + 2 + k)
  | _ => none

theorem first_nil : first [] = none := rfl
theorem first_one (t : Int) : first [t] = none := rfl
theorem first_high {t l : Int} {r : List Int} (h : t % 32 = 31) : first (t :: l :: r) = none := by simp only [first]; rw [if_pos h]
theorem first_short {t l : Int} {r : List Int} (h : t % 32 ≠ 31) (hl : l < 128) : first (t :: l :: r) = if r.length + 2 < l.toNat + 2 then none else some (t, 2, l.toNat + 2) := by
  simp only [first]; rw [if_neg h, if_pos hl]
theorem first_long {t l : Int} {r : List Int} (h : t % 32 ≠ 31) (hl : ¬ l < 128) : first (t :: l :: r) =
    match longOf r (l - 128).toNat with
    | none => none
    | some k => if r.length + 2 < (l - 128).toNat + 2 + k then none else some (t, (l - 128).toNat + 2, (l - 128).toNat + 2 + k) := by
  simp only [first]; rw [if_neg h, if_neg hl]
theorem first_long_none {t l : Int} {r : List Int} (h : t % 32 ≠ 31) (hl : ¬ l < 128) (hn : longOf r (l - 128).toNat = none) : first (t :: l :: r) = none := by rw [first_long h hl, hn]
theorem first_long_some {t l : Int} {r : List Int} {k : Nat} (h : t % 32 ≠ 31) (hl : ¬ l < 128) (hn : longOf r (l - 128).toNat = some k) : first (t :: l :: r) =
    if r.length + 2 < (l - 128).toNat + 2 + k then none else some (t, (l - 128).toNat + 2, (l - 128).toNat + 2 + k) := by rw [first_long h hl, hn]

/-- What 'first' tells lies within the bytes. -/
theorem first_bounds {s : List Int} {t : Int} {b e : Nat} (h : first s = some (t, b, e)) : 2 ≤ b ∧ b ≤ e ∧ e ≤ s.length ∧ s.getD 0 0 = t ∧ t % 32 ≠ 31 ∧ b ≤ 6 := by
  match s, h with
  | t0 :: l :: r, h =>
    by_cases ht : t0 % 32 = 31
    · rw [first_high ht] at h; cases h
    · by_cases hl : l < 128
      · rw [first_short ht hl] at h
        split at h
        · cases h
        · injection h with h
          simp only [Prod.mk.injEq] at h
          obtain ⟨rfl, rfl, rfl⟩ := h
          exact ⟨by omega, by omega, by simp only [List.length_cons]; omega, rfl, ht, by omega⟩
      · cases hk : longOf r (l - 128).toNat with
        | none => rw [first_long_none ht hl hk] at h; cases h
        | some k =>
          rw [first_long_some ht hl hk] at h
          have hm : ¬ ((l - 128).toNat = 0 ∨ 4 < (l - 128).toNat ∨ r.length < (l - 128).toNat ∨ r.getD 0 0 = 0 ∨ num (r.take (l - 128).toNat) < 128) := by
            intro hh
            unfold longOf at hk
            rw [if_pos hh] at hk
            cases hk
          split at h
          · cases h
          · injection h with h
            simp only [Prod.mk.injEq] at h
            obtain ⟨rfl, rfl, rfl⟩ := h
            exact ⟨by omega, by omega, by simp only [List.length_cons]; omega, rfl, ht, by omega⟩

theorem longOf_some {s : List Int} {m : Nat} {k : Nat} (h : longOf s m = some k) : 0 < m ∧ m ≤ 4 ∧ m ≤ s.length ∧ s.getD 0 0 ≠ 0 ∧ 128 ≤ num (s.take m) ∧ k = (num (s.take m)).toNat := by
  unfold longOf at h
  split at h
  · cases h
  · injection h with h
    omega

/-- The leading byte is a zero just where the number, shifted so that one byte is left, is 0. -/
theorem lead_zero {s : List Int} {m : Nat} (hs : Byt s) (h0 : 0 < m) (hm : m ≤ s.length) : num (s.take m) / 256 ^ (m - 1) = s.getD 0 0 := by
  obtain ⟨x, r, rfl⟩ : ∃ x r, s = x :: r := by
    cases s with
    | nil => simp at hm; omega
    | cons x r => exact ⟨x, r, rfl⟩
  obtain ⟨j, rfl⟩ : ∃ j, m = j + 1 := ⟨m - 1, by omega⟩
  simp only [List.take_succ_cons, List.getD_cons_zero, Nat.add_sub_cancel]
  have hl : (r.take j).length = j := by simp at hm ⊢; omega
  have key : ∀ (ys : List Int) (a : Int), Byt ys → 0 ≤ a → ys.foldl (fun a b => a * 256 + b) a / 256 ^ ys.length = a := by
    intro ys
    induction ys with
    | nil => intro a _ _; simp
    | cons y ys ih =>
      intro a hy ha
      have hy0 := hy y (by simp)
      have hp : (0 : Int) ≤ 256 ^ ys.length := Int.le_of_lt (Int.pow_pos (by omega))
      rw [List.foldl_cons, List.length_cons, Int.pow_succ, ← Int.ediv_ediv_of_nonneg hp, ih (a * 256 + y) (fun x hx => hy x (by simp [hx])) (by omega)]
      omega
  have := key (r.take j) x (fun y hy => hs y (by simp [List.mem_of_mem_take hy])) (hs x (by simp)).1
  rw [hl] at this
  simpa [num] using this

/-- A long form: where there is none. -/
theorem first_long_no {x0 : Int} {r : List Int} {m L n : Nat} {D : Int} (hn : r.length + 2 = n) (hx : Byt r) (hh : x0 % 32 ≠ 31) (hm0 : 0 < m) (hm4 : m ≤ 4) (hmr : m ≤ r.length) (hL : num (r.take m) = L) (hD : D = 256 ^ (m - 1))
    (h : L < 128 ∨ (L : Int) / D = 0 ∨ n < 2 + m + L) : first (x0 :: (128 + (m : Int)) :: r) = none := by
  have e : (128 + (m : Int) - 128).toNat = m := by omega
  have Lz := lead_zero hx hm0 hmr
  rw [hL, ← hD] at Lz
  cases hk : longOf r m with
  | none => exact first_long_none hh (by omega) (by rw [e]; exact hk)
  | some k =>
    have hs := longOf_some hk
    rw [first_long_some hh (by omega) (by rw [e]; exact hk), e, if_pos]
    rw [hL] at hs
    omega
/-- A long form: where there is one. -/
theorem first_long_yes {x0 : Int} {r : List Int} {m L n : Nat} {D : Int} (hn : r.length + 2 = n) (hx : Byt r) (hh : x0 % 32 ≠ 31) (hm0 : 0 < m) (hm4 : m ≤ 4) (hmr : m ≤ r.length) (hL : num (r.take m) = L) (hD : D = 256 ^ (m - 1))
    (h1 : ¬ L < 128) (h2 : ¬ (L : Int) / D = 0) (h3 : ¬ n < 2 + m + L) : first (x0 :: (128 + (m : Int)) :: r) = some (x0, 2 + m, 2 + m + L) := by
  have e : (128 + (m : Int) - 128).toNat = m := by omega
  have Lz := lead_zero hx hm0 hmr
  rw [hL, ← hD] at Lz
  have hk : longOf r m = some L := by
    unfold longOf
    rw [if_neg (by rw [hL]; omega), hL]
    rfl
  rw [first_long_some hh (by omega) (by rw [e]; exact hk), e, if_neg (by omega), show m + 2 = 2 + m by omega]
theorem first_long_bad {x0 : Int} {r : List Int} {m : Nat} (hh : x0 % 32 ≠ 31) (h : m = 0 ∨ 4 < m ∨ r.length < m) : first (x0 :: (128 + (m : Int)) :: r) = none := by
  have e : (128 + (m : Int) - 128).toNat = m := by omega
  refine first_long_none hh (by omega) ?_
  rw [e]
  unfold longOf
  rw [if_pos (by omega)]
theorem first_short_yes {x0 : Int} {r : List Int} {k n : Nat} (hn : r.length + 2 = n) (hh : x0 % 32 ≠ 31) (hk : k < 128) (h : k + 2 ≤ n) : first (x0 :: (k : Int) :: r) = some (x0, 2, k + 2) := by
  rw [first_short hh (by omega), if_neg (by omega), Int.toNat_natCast]
theorem first_short_no {x0 : Int} {r : List Int} {k n : Nat} (hn : r.length + 2 = n) (hh : x0 % 32 ≠ 31) (hk : k < 128) (h : n < k + 2) : first (x0 :: (k : Int) :: r) = none := by
  rw [first_short hh (by omega), if_pos (by omega)]

/-- The contents of the first element, and what stands behind it, where it is of that tag. -/
def firstOf (xs : List Int) (tag : Int) : Option (List Int × List Int) :=
  match first xs with
  | some (t, b, k) => if t = tag then some ((xs.take k).drop b, xs.drop k) else none
  | none => none
theorem firstOf_none {xs : List Int} {tag : Int} (h : first xs = none) : firstOf xs tag = none := by simp only [firstOf, h]
theorem firstOf_some {xs : List Int} {tag t : Int} {b k : Nat} (h : first xs = some (t, b, k)) : firstOf xs tag = if t = tag then some ((xs.take k).drop b, xs.drop k) else none := by simp only [firstOf, h]
theorem firstOf_inv {xs out rest : List Int} {tag : Int} (h : firstOf xs tag = some (out, rest)) : ∃ b k, first xs = some (tag, b, k) ∧ out = (xs.take k).drop b ∧ rest = xs.drop k ∧ out.length = k - b ∧ rest.length = xs.length - k ∧ k ≤ xs.length ∧ 2 ≤ b ∧ b ≤ k := by
  cases hf : first xs with
  | none => rw [firstOf_none hf] at h; cases h
  | some v =>
    obtain ⟨t, b, k⟩ := v
    rw [firstOf_some hf] at h
    split at h
    · rename_i ht
      subst ht
      injection h with h
      injection h with h1 h2
      subst h1; subst h2
      have hb := first_bounds hf
      exact ⟨b, k, rfl, rfl, rfl, by rw [List.length_drop, List.length_take]; omega, by rw [List.length_drop], hb.2.2.1, hb.1, hb.2.1⟩
    · cases h
end Go.Proofs.Ytdnepnnkpaoaaaa

namespace Go.Proofs.Ytdnepnnkpaoaaaa
open Go.RowKit

/-- The signed number that bytes tell. -/
def sgn (xs : List Int) : Int := if 128 ≤ xs.getD 0 0 then num xs - 256 ^ xs.length else num xs

/-- Contents of an integer: at least one byte, the first nine bits not alike. -/
def isInteger : List Int → Bool
  | [] => false
  | [_] => true
  | x :: y :: _ => !(x == 0 && decide (y < 128)) && !(x == 255 && decide (128 ≤ y))

theorem lead {xs : List Int} (hx : Byt xs) (h : 0 < xs.length) : num xs / 256 ^ (xs.length - 1) = xs.getD 0 0 := by
  have := lead_zero hx h (Nat.le_refl _)
  rwa [List.take_length] at this

theorem or_i64 {a x : Int} (h0 : 0 ≤ x) (h1 : x < 256) (ha : -9223372036854775808 ≤ a) (hb : a ≤ 9223372036854775807) (hd : a % 256 = 0) : bits .or .i64 a x = a + x := by
  show IntKind.i64.wrap ((BitVec.ofInt 64 a ||| BitVec.ofInt 64 x).toNat : Int) = _
  have e1 : (BitVec.ofInt 64 a).toNat = (a % 18446744073709551616).toNat := by simp [BitVec.toNat_ofInt]
  have e2 : (BitVec.ofInt 64 x).toNat = x.toNat := by simp [BitVec.toNat_ofInt]; omega
  rw [BitVec.toNat_or, e1, e2, nat_join 8 (a % 18446744073709551616).toNat x.toNat (by omega) (by omega), IntKind.wrap_i64]
  omega

/-- One round of the loop: shift by a byte, and the next byte in. -/
theorem signed_step {r x : Int} (h2 : 0 ≤ x) (h3 : x < 256) : bits .or .i64 (wrap64 (r * 256)) x = wrap64 (r * 256 + x) := by
  have hw : wrap64 (r * 256) % 256 = 0 := by unfold wrap64; omega
  rw [or_i64 h2 h3 (by unfold wrap64; omega) (by unfold wrap64; omega) hw]
  unfold wrap64
  omega

theorem sgn_shift {xs : List Int} {L : Nat} (hx : Byt xs) (hL : xs.length = L) (h0 : 0 < L) (h8 : L ≤ 8) : wrap64 (wrap64 (num xs) * 2 ^ (64 - 8 * L)) / 2 ^ (64 - 8 * L) = sgn xs := by
  have hl := lead hx (by omega)
  obtain ⟨n0, n1⟩ := num_bound xs hx
  have hb := hx.getD 0
  unfold sgn
  rw [hL] at *
  generalize num xs = v at *
  generalize xs.getD 0 0 = y at *
  have : L = 1 ∨ L = 2 ∨ L = 3 ∨ L = 4 ∨ L = 5 ∨ L = 6 ∨ L = 7 ∨ L = 8 := by omega
  rcases this with rfl | rfl | rfl | rfl | rfl | rfl | rfl | rfl <;> simp only [Nat.reduceMul, Nat.reduceSub, Int.reducePow] at * <;> unfold wrap64 <;> split <;> omega
end Go.Proofs.Ytdnepnnkpaoaaaa
