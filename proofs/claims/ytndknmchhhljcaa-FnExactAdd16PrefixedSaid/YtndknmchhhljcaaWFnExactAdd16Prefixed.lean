/- The walk of laws.FnExactAdd16Prefixed. (Printed by gen_preflaw.py.) -/
import Derived.Test.YtndknmchhhljcaaImpPref
import Derived.Test.YtndknmchhhljcaaLenErr
namespace Go.Proofs.Ytndknmchhhljcaa
open Go.RowKit
set_option linter.unusedVariables false

set_option maxRecDepth 100000 in
set_option maxHeartbeats 800000 in
theorem yes_FnExactAdd16Prefixed (w : World) (a : Option Addr) (n c : Nat) (xs : List Int) (hn : xs.length = n) (hb : BIn w w.heap.size a xs) (hx : Byt xs) (hc : n ≤ c) (hm : c ≤ maxLen) (h0 : n ≤ 1048576) (h6 : n < 65536) :
    Calls Try.prog 11 #[.slice a n c] w fun e w' => e = .returned (.bool true) ∧ Below w.heap.size w w' := by
  obtain ⟨i0, hi0, hz0, hz1, hz2⟩ := info_parts u8_info
  have K := Lib.hid (iAdd16P_ok a n c xs w hn hb (by omega) (Nat.div_eq_of_lt (by simp only [Nat.reducePow]; omega)))
  have D := Lib.hid (fun W => big_any (n : Int) 2 W (by omega) (by omega) (by omega))
  have Hlen := Lib.hid (show (bigB 2 (n : Int) ++ xs).length = 2 + n by rw [List.length_append, bigB_len, hn])
  have HbX := Lib.hid (show Byt (bigB 2 (n : Int) ++ xs) from (bigB_byt _ _).append hx)
  have HL4 := Lib.hid (bigB_len 2 (n : Int))
  obtain ⟨Y, hY⟩ : ∃ Y, Y = bigB 2 (n : Int) := ⟨_, rfl⟩
  rw [← hY] at K D Hlen HbX HL4
  have Hn := Lib.hid hn
  have HB := Lib.hid hb
  have t6 : decide (65536 ≤ (n : Int)) = false := by rw [decide_eq_false_iff_not]; omega
  clear hn hb hx hY h6
  go_enter Try.func11, Try.ntmps11
  go_wp2_with fail
  refine (fits_any a n c _ h0).mono ?_
  rintro e w' ⟨rfl, rfl⟩
  go_wp2_with fail
  refine K.out.mono ?_
  rintro e w1 ⟨a1, c1, rfl, p1, p2, p3, p4⟩
  rw [Hlen.out] at p1 ⊢
  go_wp2_with fail
  refine (D.out w1).mono ?_
  rintro e w2 ⟨a2, c2, rfl, q1, q2, q3, q4, q5⟩
  rw [HL4.out] at q1 q5 ⊢
  have p24 := p4.trans (q4.mono p4.size)
  have Q5 := Lib.hid q5
  have S := Lib.hid ((HB.out.below p24).lt)
  have C1 := Lib.hid (show Y.length + xs.length ≤ 70368744177664 by rw [HL4.out, Hn.out]; omega)
  clear q5
  go_wp2_with (at_builtin; go_must (refine wpList_append_bytes_w _ (by simp [Region.wanted, yielded]) (.tmp 27) (.tmp 28) _ rfl w1.heap.size 5 i0 _ Try.underlying22 hi0 hz0 hz1 hz2 rfl (.slice a2 2 c2) Y rfl Q5.out w2.heap.size a n c xs Hn.out rfl S.out C1.out q4.size ?_; intro A' c' w3 hown hg1 hat))
  have b13 : Below w1.heap.size w1 w3 := q4.grown hg1 q4.size (fun k hk => (Q5.out.lt k hk).1)
  have p3' := p4.trans (b13.mono p4.size)
  have L3 := Lib.hid (show (Y ++ xs).length = Y.length + n by rw [List.length_append, Hn.out])
  refine (same_any a1 A' (2 + n) c1 (Y.length + n) c' (Y ++ xs) (Y ++ xs) w3 w3.heap.size Hlen.out L3.out ((p3.below b13).lt) (hown.bin L3.out) HbX.out HbX.out).mono ?_
  rintro e w4 ⟨rfl, rfl⟩
  go_wp2
  go_ret
  exact ⟨ret_bool (by simp), p3'⟩

set_option maxRecDepth 100000 in
set_option maxHeartbeats 800000 in
theorem no_FnExactAdd16Prefixed (w : World) (a : Option Addr) (n c : Nat) (xs : List Int) (hn : xs.length = n) (hb : BIn w w.heap.size a xs) (hx : Byt xs) (hc : n ≤ c) (hm : c ≤ maxLen) (h0 : n ≤ 1048576) (h6 : 65536 ≤ n) :
    Calls Try.prog 11 #[.slice a n c] w fun e w' => e = .returned (.bool true) ∧ Below w.heap.size w w' := by
  have K := Lib.hid (iAdd16P_err a n c xs w hn hb (by omega) (by
    have : 1 ≤ n / 256 ^ 2 := (Nat.le_div_iff_mul_le (by decide)).mpr (by simp only [Nat.reducePow]; omega)
    omega))
  have t6 : decide (65536 ≤ (n : Int)) = true := by rw [decide_eq_true_iff]; omega
  clear hn hb hx h6
  go_enter Try.func11, Try.ntmps11
  go_wp2_with fail
  refine (fits_any a n c _ h0).mono ?_
  rintro e w' ⟨rfl, rfl⟩
  go_wp2_with fail
  refine K.out.mono ?_
  rintro e w1 ⟨a1, n1, c1, rfl, p1⟩
  go_wp2
  go_ret
  exact ⟨rfl, p1⟩

theorem main_FnExactAdd16Prefixed (w : World) (a : Option Addr) (n c : Nat) (xs : List Int) (hn : xs.length = n) (hb : BIn w w.heap.size a xs) (hx : Byt xs) (hc : n ≤ c) (hm : c ≤ maxLen) (h0 : n ≤ 1048576) :
    Calls Try.prog 11 #[.slice a n c] w fun e w' => e = .returned (.bool true) ∧ Below w.heap.size w w' := by
  rcases Nat.lt_or_ge n 65536 with h6 | h6
  · exact yes_FnExactAdd16Prefixed w a n c xs hn hb hx hc hm h0 h6
  · exact no_FnExactAdd16Prefixed w a n c xs hn hb hx hc hm h0 h6

-- PRE (printed by gen_pre.py of this folder)
set_option maxRecDepth 100000 in
set_option maxHeartbeats 800000 in
theorem walk_FnExactAdd16Prefixed (w : World) (a : Option Addr) (n c : Nat) (xs : List Int) (hn : xs.length = n) (hb : BIn w w.heap.size a xs) (hx : Byt xs) (hc : n ≤ c) (hm : c ≤ maxLen) :
    Calls Try.prog 11 #[.slice a n c] w fun e w' => e = .returned (.bool true) ∧ Below w.heap.size w w' := by
  by_cases h0 : n ≤ 1048576
  · exact main_FnExactAdd16Prefixed w a n c xs hn hb hx hc hm h0
  · by_cases hz : n ≤ 2147483647
    · go_enter Try.func11, Try.ntmps11
      go_wp2_with fail
      refine (fits_no a n c _ (by omega)).mono ?_
      rintro e w' ⟨rfl, rfl⟩
      go_wp2
      go_ret
      exact ⟨rfl, Below.refl _ _⟩
    · go_enter Try.func11, Try.ntmps11
      go_wp2
      go_ret
      exact ⟨rfl, Below.refl _ _⟩
end Go.Proofs.Ytndknmchhhljcaa
