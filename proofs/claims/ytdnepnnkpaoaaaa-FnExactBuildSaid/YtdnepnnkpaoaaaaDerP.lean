/- DER's header in plain Lean: where the first element of some bytes lies. -/
import Derived.Test.YtdnepnnkpaoaaaaNum
import Derived.Test.YtdnepnnkpaoaaaaBase
namespace Go.Proofs.Ytdnepnnkpaoaaaa
open Go.RowKit

/-- The length that is told in m bytes: 1 to 4 of them, no zero ahead, not below 128. -/
def longOf (s : List Int) (m : Nat) : Option Nat :=
  if m = 0 ∨ 4 < m ∨ s.length < m ∨ s.getD 0 0 = 0 ∨ num (s.take m) < 128 then none else some (num (s.take m)).toNat

/-- Where the first element lies: its tag, where its contents begin, where it ends. -/
def first : List Int → Option (Int × Nat × Nat)
  | t :: l :: r =>
    if t % 32 = 31 then none else
    if l < 128 then (if r.length + 2 < l.toNat + 2 then none else some (t, 2, l.toNat + 2)) else
    match longOf r (l - 128).toNat with
    | none => none
    | some k => if r.length + 2 < (l - 128).toNat + 2 + k then none else some (t, (l - 128).toNat + 2, (l - 128).toNat + 2 + k)
  | _ => none

theorem first_nil : first [] = none := rfl
theorem first_one (t : Int) : first [t] = none := rfl
theorem first_high {t l : Int} {r : List Int} (h : t % 32 = 31) : first (t :: l :: r) = none := by simp only [first]; rw [if_pos h]
theorem first_short {t l : Int} {r : List Int} (h : t % 32 ≠ 31) (hl : l < 128) : first (t :: l :: r) = if r.length + 2 < l.toNat + 2 then none else some (t, 2, l.toNat + 2) := by
  simp only [first]; rw [if_neg h, if_pos hl]
theorem first_long {t l : Int} {r : List Int} (h : t % 32 ≠ 31) (hl : ¬ l < 128) : first (t :: l :: r) =
    match longOf r (l - 128).toNat with
    | none => none
    | some k => if r.length + 2 < (l - 128).toNat + 2 + k then none else some (t, (l - 128).toNat + 2, (l - 128).toNat + 2 + k) := by
  simp only [first]; rw [if_neg h, if_neg hl]
theorem first_long_none {t l : Int} {r : List Int} (h : t % 32 ≠ 31) (hl : ¬ l < 128) (hn : longOf r (l - 128).toNat = none) : first (t :: l :: r) = none := by rw [first_long h hl, hn]
theorem first_long_some {t l : Int} {r : List Int} {k : Nat} (h : t % 32 ≠ 31) (hl : ¬ l < 128) (hn : longOf r (l - 128).toNat = some k) : first (t :: l :: r) =
    if r.length + 2 < (l - 128).toNat + 2 + k then none else some (t, (l - 128).toNat + 2, (l - 128).toNat + 2 + k) := by rw [first_long h hl, hn]

/-- What 'first' tells lies within the bytes. -/
theorem first_bounds {s : List Int} {t : Int} {b e : Nat} (h : first s = some (t, b, e)) : 2 ≤ b ∧ b ≤ e ∧ e ≤ s.length ∧ s.getD 0 0 = t ∧ t % 32 ≠ 31 ∧ b ≤ 6 := by
  match s, h with
  | t0 :: l :: r, h =>
    by_cases ht : t0 % 32 = 31
    · rw [first_high ht] at h; cases h
    · by_cases hl : l < 128
      · rw [first_short ht hl] at h
        split at h
        · cases h
        · injection h with h
          simp only [Prod.mk.injEq] at h
          obtain ⟨rfl, rfl, rfl⟩ := h
          exact ⟨by omega, by omega, by simp only [List.length_cons]; omega, rfl, ht, by omega⟩
      · cases hk : longOf r (l - 128).toNat with
        | none => rw [first_long_none ht hl hk] at h; cases h
        | some k =>
          rw [first_long_some ht hl hk] at h
          have hm : ¬ ((l - 128).toNat = 0 ∨ 4 < (l - 128).toNat ∨ r.length < (l - 128).toNat ∨ r.getD 0 0 = 0 ∨ num (r.take (l - 128).toNat) < 128) := by
            intro hh
            unfold longOf at hk
            rw [if_pos hh] at hk
            cases hk
          split at h
          · cases h
          · injection h with h
            simp only [Prod.mk.injEq] at h
            obtain ⟨rfl, rfl, rfl⟩ := h
            exact ⟨by omega, by omega, by simp only [List.length_cons]; omega, rfl, ht, by omega⟩

theorem longOf_some {s : List Int} {m : Nat} {k : Nat} (h : longOf s m = some k) : 0 < m ∧ m ≤ 4 ∧ m ≤ s.length ∧ s.getD 0 0 ≠ 0 ∧ 128 ≤ num (s.take m) ∧ k = (num (s.take m)).toNat := by
  unfold longOf at h
  split at h
  · cases h
  · injection h with h
    omega

/-- The leading byte is a zero just where the number, shifted so that one byte is left, is 0. -/
theorem lead_zero {s : List Int} {m : Nat} (hs : Byt s) (h0 : 0 < m) (hm : m ≤ s.length) : num (s.take m) / 256 ^ (m - 1) = s.getD 0 0 := by
  obtain ⟨x, r, rfl⟩ : ∃ x r, s = x :: r := by
    cases s with
    | nil => simp at hm; omega
    | cons x r => exact ⟨x, r, rfl⟩
  obtain ⟨j, rfl⟩ : ∃ j, m = j + 1 := ⟨m - 1, by omega⟩
  simp only [List.take_succ_cons, List.getD_cons_zero, Nat.add_sub_cancel]
  have hl : (r.take j).length = j := by simp at hm ⊢; omega
  have key : ∀ (ys : List Int) (a : Int), Byt ys → 0 ≤ a → ys.foldl (fun a b => a * 256 + b) a / 256 ^ ys.length = a := by
    intro ys
    induction ys with
    | nil => intro a _ _; simp
    | cons y ys ih =>
      intro a hy ha
      have hy0 := hy y (by simp)
      have hp : (0 : Int) ≤ 256 ^ ys.length := Int.le_of_lt (Int.pow_pos (by omega))
      rw [List.foldl_cons, List.length_cons, Int.pow_succ, ← Int.ediv_ediv_of_nonneg hp, ih (a * 256 + y) (fun x hx => hy x (by simp [hx])) (by omega)]
      omega
  have := key (r.take j) x (fun y hy => hs y (by simp [List.mem_of_mem_take hy])) (hs x (by simp)).1
  rw [hl] at this
  simpa [num] using this

/-- A long form: where there is none. -/
theorem first_long_no {x0 : Int} {r : List Int} {m L n : Nat} {D : Int} (hn : r.length + 2 = n) (hx : Byt r) (hh : x0 % 32 ≠ 31) (hm0 : 0 < m) (hm4 : m ≤ 4) (hmr : m ≤ r.length) (hL : num (r.take m) = L) (hD : D = 256 ^ (m - 1))
    (h : L < 128 ∨ (L : Int) / D = 0 ∨ n < 2 + m + L) : first (x0 :: (128 + (m : Int)) :: r) = none := by
  have e : (128 + (m : Int) - 128).toNat = m := by omega
  have Lz := lead_zero hx hm0 hmr
  rw [hL, ← hD] at Lz
  cases hk : longOf r m with
  | none => exact first_long_none hh (by omega) (by rw [e]; exact hk)
  | some k =>
    have hs := longOf_some hk
    rw [first_long_some hh (by omega) (by rw [e]; exact hk), e, if_pos]
    rw [hL] at hs
    omega
/-- A long form: where there is one. -/
theorem first_long_yes {x0 : Int} {r : List Int} {m L n : Nat} {D : Int} (hn : r.length + 2 = n) (hx : Byt r) (hh : x0 % 32 ≠ 31) (hm0 : 0 < m) (hm4 : m ≤ 4) (hmr : m ≤ r.length) (hL : num (r.take m) = L) (hD : D = 256 ^ (m - 1))
    (h1 : ¬ L < 128) (h2 : ¬ (L : Int) / D = 0) (h3 : ¬ n < 2 + m + L) : first (x0 :: (128 + (m : Int)) :: r) = some (x0, 2 + m, 2 + m + L) := by
  have e : (128 + (m : Int) - 128).toNat = m := by omega
  have Lz := lead_zero hx hm0 hmr
  rw [hL, ← hD] at Lz
  have hk : longOf r m = some L := by
    unfold longOf
    rw [if_neg (by rw [hL]; omega), hL]
    rfl
  rw [first_long_some hh (by omega) (by rw [e]; exact hk), e, if_neg (by omega), show m + 2 = 2 + m by omega]
theorem first_long_bad {x0 : Int} {r : List Int} {m : Nat} (hh : x0 % 32 ≠ 31) (h : m = 0 ∨ 4 < m ∨ r.length < m) : first (x0 :: (128 + (m : Int)) :: r) = none := by
  have e : (128 + (m : Int) - 128).toNat = m := by omega
  refine first_long_none hh (by omega) ?_
  rw [e]
  unfold longOf
  rw [if_pos (by omega)]
theorem first_short_yes {x0 : Int} {r : List Int} {k n : Nat} (hn : r.length + 2 = n) (hh : x0 % 32 ≠ 31) (hk : k < 128) (h : k + 2 ≤ n) : first (x0 :: (k : Int) :: r) = some (x0, 2, k + 2) := by
  rw [first_short hh (by omega), if_neg (by omega), Int.toNat_natCast]
theorem first_short_no {x0 : Int} {r : List Int} {k n : Nat} (hn : r.length + 2 = n) (hh : x0 % 32 ≠ 31) (hk : k < 128) (h : n < k + 2) : first (x0 :: (k : Int) :: r) = none := by
  rw [first_short hh (by omega), if_pos (by omega)]

/-- The contents of the first element, and what stands behind it, where it is of that tag. -/
def firstOf (xs : List Int) (tag : Int) : Option (List Int × List Int) :=
  match first xs with
  | some (t, b, k) => if t = tag then some ((xs.take k).drop b, xs.drop k) else none
  | none => none
theorem firstOf_none {xs : List Int} {tag : Int} (h : first xs = none) : firstOf xs tag = none := by simp only [firstOf, h]
theorem firstOf_some {xs : List Int} {tag t : Int} {b k : Nat} (h : first xs = some (t, b, k)) : firstOf xs tag = if t = tag then some ((xs.take k).drop b, xs.drop k) else none := by simp only [firstOf, h]
theorem firstOf_inv {xs out rest : List Int} {tag : Int} (h : firstOf xs tag = some (out, rest)) : ∃ b k, first xs = some (tag, b, k) ∧ out = (xs.take k).drop b ∧ rest = xs.drop k ∧ out.length = k - b ∧ rest.length = xs.length - k ∧ k ≤ xs.length ∧ 2 ≤ b ∧ b ≤ k := by
  cases hf : first xs with
  | none => rw [firstOf_none hf] at h; cases h
  | some v =>
    obtain ⟨t, b, k⟩ := v
    rw [firstOf_some hf] at h
    split at h
    · rename_i ht
      subst ht
      injection h with h
      injection h with h1 h2
      subst h1; subst h2
      have hb := first_bounds hf
      exact ⟨b, k, rfl, rfl, rfl, by rw [List.length_drop, List.length_take]; omega, by rw [List.length_drop], hb.2.2.1, hb.1, hb.2.1⟩
    · cases h
end Go.Proofs.Ytdnepnnkpaoaaaa
