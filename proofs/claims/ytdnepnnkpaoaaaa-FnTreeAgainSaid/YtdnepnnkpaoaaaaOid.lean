/- Numbers in base 128, as object identifiers hold them: written and read again (plain; no program in sight). -/
import Derived.Test.YtdnepnnkpaoaaaaBig
namespace Go.Proofs.Ytdnepnnkpaoaaaa
open Go.RowKit
set_option linter.unusedVariables false

/-- The last k digits of n in base 128, all but the last with the highest bit. -/
def b128 : Nat → Nat → List Int
  | 0, _ => []
  | k + 1, n => ((n / 128 ^ k % 128 + (if k = 0 then 0 else 128) : Nat) : Int) :: b128 k n
theorem b128_len (k n : Nat) : (b128 k n).length = k := by
  induction k with
  | zero => rfl
  | succ k ih => simp [b128, ih]
theorem b128_byt (k n : Nat) : Byt (b128 k n) := by
  induction k with
  | zero => exact Byt.nil
  | succ k ih =>
    intro x hx
    simp only [b128, List.mem_cons] at hx
    rcases hx with rfl | hx
    · have := Nat.mod_lt (n / 128 ^ k) (show 0 < 128 by decide)
      split <;> omega
    · exact ih x hx

/-- How many digits a number below 2^31 has. -/
def grp (n : Nat) : Nat := if n < 128 then 1 else if n < 16384 then 2 else if n < 2097152 then 3 else if n < 268435456 then 4 else 5
theorem grp_ok {n : Nat} (h : n < 2147483648) : 1 ≤ grp n ∧ grp n ≤ 5 ∧ (grp n = 1 ∨ 128 ^ (grp n - 1) ≤ n) ∧ n < 128 ^ grp n := by
  unfold grp
  split
  · simp; omega
  · split
    · simp; omega
    · split
      · simp; omega
      · split
        · simp; omega
        · simp; omega

/-- What readBase128Int tells, from the i-th byte on, where 'ret' is what the bytes so far tell. -/
def rd128 : Nat → Nat → List Int → Option (Nat × List Int)
  | _, _, [] => none
  | i, ret, b :: r =>
    if i = 5 then none else if 16777216 ≤ ret then none else if i = 0 ∧ b = 128 then none
    else if b < 128 then some (ret * 128 + (b % 128).toNat, r) else rd128 (i + 1) (ret * 128 + (b % 128).toNat) r

theorem rd128_back (n k : Nat) (r : List Int) (hk : k ≤ 5) (hn : n < 2147483648) (h1 : k = 1 ∨ 128 ^ (k - 1) ≤ n) (h2 : n < 128 ^ k) (j : Nat) (hj : 0 < j) (hjk : j ≤ k) :
    rd128 (k - j) (n / 128 ^ j) (b128 j n ++ r) = some (n, r) := by
  induction j with
  | zero => omega
  | succ j ih =>
    have hd := Nat.mod_lt (n / 128 ^ j) (show 0 < 128 by decide)
    have hret : n / 128 ^ (j + 1) = n / 128 ^ j / 128 := by rw [Nat.pow_succ, Nat.div_div_eq_div_mul]
    have hq : n / 128 ^ (j + 1) * 128 + n / 128 ^ j % 128 = n / 128 ^ j := by rw [hret]; omega
    have hsmall : n / 128 ^ (j + 1) < 16777216 := by
      have : n / 128 ^ (j + 1) ≤ n / 128 := Nat.div_le_div_left (by rw [Nat.pow_succ]; exact Nat.le_mul_of_pos_left _ (Nat.pow_pos (by decide))) (by decide)
      omega
    obtain ⟨d, hdd⟩ : ∃ d, d = n / 128 ^ j % 128 := ⟨_, rfl⟩
    rw [← hdd] at hd hq
    simp only [b128, List.cons_append, ← hdd]
    unfold rd128
    rw [if_neg (by omega), if_neg (by omega)]
    rcases Nat.eq_zero_or_pos j with rfl | hj0
    · rw [if_pos rfl, if_neg (by omega), if_pos (by omega)]
      have e : (((d + 0 : Nat) : Int) % 128).toNat = d := by omega
      rw [e, hq]
      simp [b128]
    · have hj1 : (if j = 0 then 0 else 128) = 128 := if_neg (by omega)
      rw [hj1]
      have hne : ¬ (k - (j + 1) = 0 ∧ ((d + 128 : Nat) : Int) = 128) := by
        rintro ⟨a1, a2⟩
        have hkj : k = j + 1 := by omega
        subst hkj
        rcases h1 with h1 | h1
        · omega
        · simp only [Nat.add_sub_cancel] at h1
          have b1 : 1 ≤ n / 128 ^ j := (Nat.le_div_iff_mul_le (Nat.pow_pos (by decide))).mpr (by omega)
          have b2 : n / 128 ^ j < 128 := (Nat.div_lt_iff_lt_mul (Nat.pow_pos (by decide))).mpr (by rw [Nat.pow_succ] at h2; omega)
          rw [Nat.mod_eq_of_lt b2] at hdd
          omega
      rw [if_neg hne, if_neg (by omega)]
      have e : (((d + 128 : Nat) : Int) % 128).toNat = d := by omega
      rw [e, hq, show k - (j + 1) + 1 = k - j by omega]
      exact ih hj0 (by omega)

/-- A number as its digits. -/
def enc (n : Nat) : List Int := b128 (grp n) n
theorem rd128_enc {n : Nat} (r : List Int) (h : n < 2147483648) : rd128 0 0 (enc n ++ r) = some (n, r) := by
  obtain ⟨h1, h2, h3, h4⟩ := grp_ok h
  have := rd128_back n (grp n) r h2 h h3 h4 (grp n) h1 (Nat.le_refl _)
  rw [Nat.sub_self, Nat.div_eq_of_lt h4] at this
  exact this
theorem enc_len {n : Nat} (h : n < 2147483648) : 1 ≤ (enc n).length ∧ (enc n).length ≤ 5 := by
  obtain ⟨h1, h2, _⟩ := grp_ok h
  unfold enc
  rw [b128_len]
  exact ⟨h1, h2⟩

/-- The arcs behind the first pair, read to the end. -/
def rdAll : Nat → List Int → Option (List Nat)
  | _, [] => some []
  | 0, _ => none
  | f + 1, s => (rd128 0 0 s).bind fun p => (rdAll f p.2).map (p.1 :: ·)
theorem rdAll_back (l : List Nat) (h : ∀ n ∈ l, n < 2147483648) (f : Nat) (hf : l.length ≤ f) : rdAll f (l.flatMap enc) = some l := by
  induction l generalizing f with
  | nil => cases f <;> rfl
  | cons n l ih =>
    obtain ⟨g, rfl⟩ : ∃ g, f = g + 1 := ⟨f - 1, by rw [List.length_cons] at hf; omega⟩
    have hn := h n (by simp)
    have hl := (enc_len hn).1
    rw [List.flatMap_cons]
    have e := rd128_enc (l.flatMap enc) hn
    cases hs : enc n ++ l.flatMap enc with
    | nil => have h9 := congrArg List.length hs; rw [List.length_append, List.length_nil] at h9; omega
    | cons x r =>
      rw [hs] at e
      simp only [rdAll, e, Option.bind_some]
      rw [ih (fun m hm => h m (by simp [hm])) g (by rw [List.length_cons] at hf; omega)]
      rfl

/-- The contents of an object identifier: the first two arcs are one number. -/
def oidC : List Nat → List Int
  | a :: b :: r => enc (a * 40 + b) ++ r.flatMap enc
  | _ => []
def rdOid (s : List Int) : Option (List Nat) :=
  (rd128 0 0 s).bind fun p => (rdAll s.length p.2).map fun l => (if p.1 < 80 then [p.1 / 40, p.1 % 40] else [2, p.1 - 80]) ++ l
theorem rdOid_back (a b : Nat) (r : List Nat) (ha : a ≤ 2) (hb : a < 2 → b < 40) (h0 : a * 40 + b < 2147483648) (h : ∀ n ∈ r, n < 2147483648) : rdOid (oidC (a :: b :: r)) = some (a :: b :: r) := by
  have hr : ∀ l : List Nat, (∀ n ∈ l, n < 2147483648) → l.length ≤ (l.flatMap enc).length := by
    intro l
    induction l with
    | nil => simp
    | cons n l ih =>
      intro h
      have := (enc_len (h n (by simp))).1
      have := ih (fun m hm => h m (by simp [hm]))
      rw [List.flatMap_cons, List.length_append, List.length_cons]
      omega
  unfold rdOid oidC
  rw [rd128_enc _ h0]
  simp only [Option.bind_some]
  rw [rdAll_back r h _ (by have := hr r h; rw [List.length_append]; omega)]
  simp only [Option.map_some]
  rcases Nat.lt_or_ge a 2 with h2 | h2
  · have := hb h2
    rw [if_pos (by omega)]
    have e1 : (a * 40 + b) / 40 = a := by omega
    have e2 : (a * 40 + b) % 40 = b := by omega
    rw [e1, e2]; rfl
  · have : a = 2 := by omega
    subst this
    rw [if_neg (by omega)]
    have e1 : 2 * 40 + b - 80 = b := by omega
    rw [e1]; rfl
end Go.Proofs.Ytdnepnnkpaoaaaa
