/- One encoding alone: an element that is read is the one that is built of its tag and contents: plain facts. -/
import Derived.Test.YtdnepnnkpaoaaaaBig
namespace Go.Proofs.Ytdnepnnkpaoaaaa
open Go.RowKit

theorem bigB_of_num (xs : List Int) (h : Byt xs) : bigB xs.length (num xs) = xs := by
  have key : ∀ n (xs : List Int), xs.length = n → Byt xs → bigB n (num xs) = xs := by
    intro n
    induction n with
    | zero => intro xs hl _; rw [List.eq_nil_of_length_eq_zero hl]; rfl
    | succ n ih =>
      intro xs hl hx
      have hne : xs ≠ [] := by intro e; rw [e] at hl; simp at hl
      have e := List.dropLast_concat_getLast hne
      have hb := hx (xs.getLast hne) (List.getLast_mem hne)
      have hd : xs.dropLast.length = n := by rw [List.length_dropLast, hl]; rfl
      rw [← e, num_snoc, bigB_succ]
      rw [show (num xs.dropLast * 256 + xs.getLast hne) / 256 = num xs.dropLast by omega, show (num xs.dropLast * 256 + xs.getLast hne) % 256 = xs.getLast hne by omega]
      rw [ih xs.dropLast hd (fun y hy => hx y (List.dropLast_subset _ hy))]
  exact key xs.length xs rfl h

theorem first_again {s : List Int} {t : Int} {b k : Nat} (h : first s = some (t, b, k)) (hs : Byt s) (hl : s.length < 16777216) : derHdr t (k - b) = s.take b := by
  match s, h with
  | t0 :: l :: r, h =>
    by_cases ht : t0 % 32 = 31
    · rw [first_high ht] at h; cases h
    · have hl0 := hs l (by simp)
      by_cases h128 : l < 128
      · rw [first_short ht h128] at h
        split at h
        · cases h
        · injection h with h
          simp only [Prod.mk.injEq] at h
          obtain ⟨rfl, rfl, rfl⟩ := h
          unfold derHdr
          rw [if_pos (by omega)]
          simp
          omega
      · cases hk : longOf r (l - 128).toNat with
        | none => rw [first_long_none ht h128 hk] at h; cases h
        | some L =>
          rw [first_long_some ht h128 hk] at h
          split at h
          · cases h
          · rename_i hle
            injection h with h
            simp only [Prod.mk.injEq] at h
            obtain ⟨rfl, rfl, rfl⟩ := h
            obtain ⟨m1, m2, m3, m4, m5, m6⟩ := longOf_some hk
            clear hk
            generalize hm : (l - 128).toNat = m at *
            have hbr : Byt r := fun y hy => hs y (List.mem_cons_of_mem _ (List.mem_cons_of_mem _ hy))
            have hlz := lead_zero hbr m1 m3
            obtain ⟨n0, n1⟩ := num_bound (r.take m) (hbr.take m)
            have hlen : (r.take m).length = m := by rw [List.length_take]; omega
            rw [hlen] at n1
            have hg := hbr.getD 0
            have hbig := bigB_of_num (r.take m) (hbr.take m)
            rw [hlen] at hbig
            have hnL : num (r.take m) = (L : Int) := by omega
            rw [hnL] at hbig hlz n1
            have hL : L < 16777216 := by simp only [List.length_cons] at hl; omega
            have hlb : m = lenB L := by
              have : m = 1 ∨ m = 2 ∨ m = 3 ∨ m = 4 := by omega
              unfold lenB
              rcases this with rfl | rfl | rfl | rfl <;> simp only [Nat.reduceSub, Int.reducePow] at hlz n1 <;> (split <;> (try split)) <;> omega
            unfold derHdr
            rw [show m + 2 + L - (m + 2) = L by omega, if_neg (by omega), ← hlb, hbig]
            rw [show m + 2 = (m + 1) + 1 by omega, List.take_succ_cons, List.take_succ_cons]
            congr 2
            omega

theorem again_eq {s : List Int} {t : Int} {b k : Nat} (h : first s = some (t, b, k)) (hs : Byt s) (hl : s.length < 16777216) : derWrap t ((s.take k).drop b) ++ s.drop k = s := by
  have hb := first_bounds h
  have e := first_again h hs hl
  have hc : ((s.take k).drop b).length = k - b := by rw [List.length_drop, List.length_take]; omega
  unfold derWrap
  rw [hc, e]
  rw [show s.take b = (s.take k).take b by rw [List.take_take, Nat.min_eq_left (by omega)], List.take_append_drop, List.take_append_drop]
end Go.Proofs.Ytdnepnnkpaoaaaa
