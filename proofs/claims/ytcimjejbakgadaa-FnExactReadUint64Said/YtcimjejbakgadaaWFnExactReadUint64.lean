/- The walk of laws.FnExactReadUint64. (Printed by gen_walk_read.py of this folder.) -/
import Derived.Test.YtcimjejbakgadaaSpec0
import Derived.Test.YtcimjejbakgadaaRead2
namespace Go.Proofs.Ytcimjejbakgadaa
open Go.RowKit
set_option linter.unusedVariables false

set_option maxRecDepth 100000 in
set_option maxHeartbeats 800000 in
theorem walk_FnExactReadUint64 (w : World) (a : Option Addr) (n c : Nat) (xs : List Int) (hn : xs.length = n) (hb : BIn w w.heap.size a xs) (hx : Byt xs) (hc : n ≤ c) (hm : c ≤ maxLen) :
    Calls Try.prog 9 #[.slice a n c] w fun e w' => e = .returned (.bool true) ∧ Below w.heap.size w w' := by
  by_cases h0 : n ≤ 1048576
  · by_cases h2 : n < 8
    · go_enter Try.func9, Try.ntmps9
      go_wp2_with fail
      refine (fits_any a n c _ h0).mono ?_
      rintro e w' ⟨rfl, rfl⟩
      go_wp2_with fail
      refine (iReadU64_no a n c xs _ hn h2 hb (by omega)).mono ?_
      rintro e w1 ⟨a1, c1, rfl, p1, p2, p3, p4⟩
      go_wp2_with fail
      refine (number_no a n c 8 _ (by omega)).mono ?_
      rintro e w2 ⟨rfl, rfl⟩
      go_wp2
      go_ret
      exact ⟨rfl, p4⟩
    · rcases xs with _ | ⟨x0, xs⟩
      · simp at hn; omega
      rcases xs with _ | ⟨x1, xs⟩
      · simp at hn; omega
      rcases xs with _ | ⟨x2, xs⟩
      · simp at hn; omega
      rcases xs with _ | ⟨x3, xs⟩
      · simp at hn; omega
      rcases xs with _ | ⟨x4, xs⟩
      · simp at hn; omega
      rcases xs with _ | ⟨x5, xs⟩
      · simp at hn; omega
      rcases xs with _ | ⟨x6, xs⟩
      · simp at hn; omega
      rcases xs with _ | ⟨x7, xs⟩
      · simp at hn; omega
      have Hn := Lib.hid (show xs.length + 8 = n by simpa using hn)
      clear hn
      generalize xs = r at *
      have R := Lib.hid (iReadU64_yes a n c x0 x1 x2 x3 x4 x5 x6 x7 r w Hn.out hb (by omega) hx)
      generalize hv : num [x0, x1, x2, x3, x4, x5, x6, x7] = v at *
      have Hv := Lib.hid hv
      clear hv
      have sl := sl_from a n c 8 8 rfl (by omega)
      go_enter Try.func9, Try.ntmps9
      go_wp2_with fail
      refine (fits_any a n c _ h0).mono ?_
      rintro e w' ⟨rfl, rfl⟩
      go_wp2_with fail
      refine R.out.mono ?_
      rintro e w1 ⟨a1, c1, rfl, p1, p2, p3, p4⟩
      go_wp2_with fail
      have hb1 := hb.below p4
      have N := Lib.hid (number_yes a n c 8 (x0 :: x1 :: x2 :: x3 :: x4 :: x5 :: x6 :: x7 :: r) w1 _ (by have := Hn.out; simpa using this) (by omega) (by omega) hb1 hx)
      refine N.out.mono ?_
      rintro e w2 ⟨rfl, rfl⟩
      have E : Hid (num ((x0 :: x1 :: x2 :: x3 :: x4 :: x5 :: x6 :: x7 :: r).take 8) = v) := Hv.out
      rw [E.out]
      go_wp2_with fail
      refine (same_any a1 (cutA a c 8) (n - 8) c1 (n - 8) (c - 8) r r w1 w1.heap.size (by have := Hn.out; omega) (by have := Hn.out; omega) p3 ((hb1.cut (c := c) (k := 8) (by have := Hn.out; simp; omega)).lt) (hx.drop 8) (hx.drop 8)).mono ?_
      rintro e w2 ⟨rfl, rfl⟩
      go_wp2
      go_ret
      exact ⟨ret_bool (by simp), p4⟩
  · by_cases hz : n ≤ 2147483647
    · go_enter Try.func9, Try.ntmps9
      go_wp2_with fail
      refine (fits_no a n c _ (by omega)).mono ?_
      rintro e w' ⟨rfl, rfl⟩
      go_wp2
      go_ret
      exact ⟨rfl, Below.refl _ _⟩
    · go_enter Try.func9, Try.ntmps9
      go_wp2
      go_ret
      exact ⟨rfl, Below.refl _ _⟩
end Go.Proofs.Ytcimjejbakgadaa
