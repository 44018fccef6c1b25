/- The walk of laws.FnExactReadInt64. (Printed by gen_wint.py of this folder.) -/
import Derived.Test.YtcimjejbakgadaaSpecInt
import Derived.Test.YtcimjejbakgadaaImpInt
import Derived.Test.YtcimjejbakgadaaSpec0
import Derived.Test.YtcimjejbakgadaaLawElem
namespace Go.Proofs.Ytcimjejbakgadaa
open Go.RowKit
set_option linter.unusedVariables false

set_option maxRecDepth 100000 in
set_option maxHeartbeats 1600000 in
theorem main_FnExactReadInt64 (w : World) (a : Option Addr) (n c : Nat) (xs : List Int) (hn : xs.length = n) (hb : BIn w w.heap.size a xs) (hx : Byt xs) (hc : n ≤ c) (hm : c ≤ maxLen) (h0 : n ≤ 1048576) :
    Calls Try.prog 26 #[.slice a n c] w fun e w' => e = .returned (.bool true) ∧ Below w.heap.size w w' := by
  have K := Lib.hid (iReadInt64_any a n c xs w hn hb hx (by omega))
  have D := Lib.hid (fun W (hB : Below w.heap.size w W) => firstOf_any a n c xs 2 w.heap.size W hn hc hm (hb.below hB) hB.size hx (by omega))
  have hxl : xs.length ≤ 1048576 := by omega
  clear hn hb
  cases hf : firstOf xs 2 with
  | none =>
    have Hf := Lib.hid hf
    have R := Lib.hid (show intRead xs 2 = none by unfold intRead; rw [hf])
    have V := Lib.hid (show intVal [] = none by rfl)
    clear hf
    go_enter Try.func26, Try.ntmps26
    go_wp2_with fail
    refine (fits_any a n c _ h0).mono ?_
    rintro e w' ⟨rfl, rfl⟩
    go_wp2_with fail
    refine K.out.mono ?_
    intro e w1 hq
    rw [R.out] at hq
    obtain ⟨v1, v2, rfl, p1⟩ := hq
    go_wp2_with fail
    refine (D.out w1 p1).mono ?_
    intro e w2 hq
    unfold FOPost at hq
    rw [Hf.out] at hq
    obtain ⟨p2, rfl⟩ := hq
    have p12 := p1.trans (p2.mono p1.size)
    go_wp2_with fail
    refine (intOf_any none 0 0 [] 0 _ rfl (BIn.nil _ _ _) Byt.nil (by omega)).mono ?_
    rintro e w3 ⟨rfl, rfl⟩
    rw [V.out]
    unfold intEnd
    go_wp2
    go_ret
    exact ⟨rfl, p12⟩
  | some v =>
    obtain ⟨out, rest⟩ := v
    have Hf := Lib.hid hf
    have R := Lib.hid (show intRead xs 2 = if isInteger out = true ∧ out.length ≤ 8 then some (sgn out, rest) else none by unfold intRead; rw [hf])
    have Hx : Byt out ∧ Byt rest ∧ out.length ≤ 1048576 := by
      obtain ⟨b, k, _, ho, hr, h3, h4, _⟩ := firstOf_inv hf
      subst ho; subst hr
      exact ⟨(hx.take _).drop _, hx.drop _, by omega⟩
    obtain ⟨x1, x2, x3⟩ := Hx
    have X1 := Lib.hid x1
    have X2 := Lib.hid x2
    clear hf x1 x2 hx
    by_cases hi : isInteger out = true ∧ out.length ≤ 8
    · have V := Lib.hid (show intVal out = some (sgn out) by unfold intVal; rw [if_pos hi])
      rw [if_pos hi] at R
      clear hi
      generalize sgn out = z at *
      go_enter Try.func26, Try.ntmps26
      go_wp2_with fail
      refine (fits_any a n c _ h0).mono ?_
      rintro e w' ⟨rfl, rfl⟩
      go_wp2_with fail
      refine K.out.mono ?_
      intro e w1 hq
      rw [R.out] at hq
      obtain ⟨a1, c1, rfl, _, _, q3, p1⟩ := hq
      go_wp2_with fail
      refine (D.out w1 p1).mono ?_
      intro e w2 hq
      unfold FOPost at hq
      rw [Hf.out] at hq
      obtain ⟨p2, a3, c3, a4, c4, rfl, _, _, _, _, z3, z4⟩ := hq
      have p12 := p1.trans (p2.mono p1.size)
      go_wp2_with fail
      refine (intOf_any a3 out.length c3 out _ _ rfl z3 X1.out (by omega)).mono ?_
      rintro e w3 ⟨rfl, rfl⟩
      rw [V.out]
      unfold intEnd
      go_wp2_with fail
      refine (same_any a1 a4 rest.length c1 rest.length c4 rest rest w2 w2.heap.size rfl rfl ((q3.below p2).lt) z4.lt X2.out X2.out).mono ?_
      rintro e w5 ⟨rfl, rfl⟩
      go_wp2
      go_ret
      exact ⟨ret_bool (by simp), p12⟩
    · have V := Lib.hid (show intVal out = none by unfold intVal; rw [if_neg hi])
      rw [if_neg hi] at R
      clear hi
      go_enter Try.func26, Try.ntmps26
      go_wp2_with fail
      refine (fits_any a n c _ h0).mono ?_
      rintro e w' ⟨rfl, rfl⟩
      go_wp2_with fail
      refine K.out.mono ?_
      intro e w1 hq
      rw [R.out] at hq
      obtain ⟨v1, v2, rfl, p1⟩ := hq
      go_wp2_with fail
      refine (D.out w1 p1).mono ?_
      intro e w2 hq
      unfold FOPost at hq
      rw [Hf.out] at hq
      obtain ⟨p2, a3, c3, a4, c4, rfl, _, _, _, _, z3, z4⟩ := hq
      have p12 := p1.trans (p2.mono p1.size)
      go_wp2_with fail
      refine (intOf_any a3 out.length c3 out _ _ rfl z3 X1.out (by omega)).mono ?_
      rintro e w3 ⟨rfl, rfl⟩
      rw [V.out]
      unfold intEnd
      go_wp2
      go_ret
      exact ⟨rfl, p12⟩

-- PRE (printed by gen_pre.py of this folder)
set_option maxRecDepth 100000 in
set_option maxHeartbeats 800000 in
theorem walk_FnExactReadInt64 (w : World) (a : Option Addr) (n c : Nat) (xs : List Int) (hn : xs.length = n) (hb : BIn w w.heap.size a xs) (hx : Byt xs) (hc : n ≤ c) (hm : c ≤ maxLen) :
    Calls Try.prog 26 #[.slice a n c] w fun e w' => e = .returned (.bool true) ∧ Below w.heap.size w w' := by
  by_cases h0 : n ≤ 1048576
  · exact main_FnExactReadInt64 w a n c xs hn hb hx hc hm h0
  · by_cases hz : n ≤ 2147483647
    · go_enter Try.func26, Try.ntmps26
      go_wp2_with fail
      refine (fits_no a n c _ (by omega)).mono ?_
      rintro e w' ⟨rfl, rfl⟩
      go_wp2
      go_ret
      exact ⟨rfl, Below.refl _ _⟩
    · go_enter Try.func26, Try.ntmps26
      go_wp2
      go_ret
      exact ⟨rfl, Below.refl _ _⟩
end Go.Proofs.Ytcimjejbakgadaa
