/- The walk of laws.FnExactReadInt64WithTag. (Printed by gen_wint.py of this folder.) -/
import Derived.Test.YtcimjejbakgadaaSpecInt
import Derived.Test.YtcimjejbakgadaaImpInt
import Derived.Test.YtcimjejbakgadaaSpec0
import Derived.Test.YtcimjejbakgadaaLawElem
namespace Go.Proofs.Ytcimjejbakgadaa
open Go.RowKit
set_option linter.unusedVariables false

set_option maxRecDepth 100000 in
set_option maxHeartbeats 1600000 in
theorem main_FnExactReadInt64WithTag (w : World) (a : Option Addr) (n c : Nat) (xs : List Int) (hn : xs.length = n) (hb : BIn w w.heap.size a xs) (hx : Byt xs) (hc : n ≤ c) (hm : c ≤ maxLen) (h0 : n ≤ 1048576) (t : Int) (t0 : 0 ≤ t) (t1 : t ≤ 255) :
    Calls Try.prog 24 #[.slice a n c, .int .i64 t] w fun e w' => e = .returned (.bool true) ∧ Below w.heap.size w w' := by
  have K := Lib.hid (iReadIntT_any a n c xs t w hn hb hx (by omega) t0 t1)
  have D := Lib.hid (fun W (hB : Below w.heap.size w W) => firstOf_any a n c xs t w.heap.size W hn hc hm (hb.below hB) hB.size hx (by omega))
  have hxl : xs.length ≤ 1048576 := by omega
  clear hn hb
  cases hf : firstOf xs t with
  | none =>
    have Hf := Lib.hid hf
    have R := Lib.hid (show intRead xs t = none by unfold intRead; rw [hf])
    have V := Lib.hid (show intVal [] = none by rfl)
    clear hf
    go_enter Try.func24, Try.ntmps24
    go_wp2_with fail
    refine (tagOk_yes t _ t0 t1).mono ?_
    rintro e w' ⟨rfl, rfl⟩
    go_wp2_with fail
    refine (fits_any a n c _ h0).mono ?_
    rintro e w' ⟨rfl, rfl⟩
    go_wp2_with fail
    refine K.out.mono ?_
    intro e w1 hq
    rw [R.out] at hq
    obtain ⟨v1, v2, rfl, p1⟩ := hq
    go_wp2_with fail
    refine (D.out w1 p1).mono ?_
    intro e w2 hq
    unfold FOPost at hq
    rw [Hf.out] at hq
    obtain ⟨p2, rfl⟩ := hq
    have p12 := p1.trans (p2.mono p1.size)
    go_wp2_with fail
    refine (intOf_any none 0 0 [] 0 _ rfl (BIn.nil _ _ _) Byt.nil (by omega)).mono ?_
    rintro e w3 ⟨rfl, rfl⟩
    rw [V.out]
    unfold intEnd
    go_wp2
    go_ret
    exact ⟨rfl, p12⟩
  | some v =>
    obtain ⟨out, rest⟩ := v
    have Hf := Lib.hid hf
    have R := Lib.hid (show intRead xs t = if isInteger out = true ∧ out.length ≤ 8 then some (sgn out, rest) else none by unfold intRead; rw [hf])
    have Hx : Byt out ∧ Byt rest ∧ out.length ≤ 1048576 := by
      obtain ⟨b, k, _, ho, hr, h3, h4, _⟩ := firstOf_inv hf
      subst ho; subst hr
      exact ⟨(hx.take _).drop _, hx.drop _, by omega⟩
    obtain ⟨x1, x2, x3⟩ := Hx
    have X1 := Lib.hid x1
    have X2 := Lib.hid x2
    clear hf x1 x2 hx
    by_cases hi : isInteger out = true ∧ out.length ≤ 8
    · have V := Lib.hid (show intVal out = some (sgn out) by unfold intVal; rw [if_pos hi])
      rw [if_pos hi] at R
      clear hi
      generalize sgn out = z at *
      go_enter Try.func24, Try.ntmps24
      go_wp2_with fail
      refine (tagOk_yes t _ t0 t1).mono ?_
      rintro e w' ⟨rfl, rfl⟩
      go_wp2_with fail
      refine (fits_any a n c _ h0).mono ?_
      rintro e w' ⟨rfl, rfl⟩
      go_wp2_with fail
      refine K.out.mono ?_
      intro e w1 hq
      rw [R.out] at hq
      obtain ⟨a1, c1, rfl, _, _, q3, p1⟩ := hq
      go_wp2_with fail
      refine (D.out w1 p1).mono ?_
      intro e w2 hq
      unfold FOPost at hq
      rw [Hf.out] at hq
      obtain ⟨p2, a3, c3, a4, c4, rfl, _, _, _, _, z3, z4⟩ := hq
      have p12 := p1.trans (p2.mono p1.size)
      go_wp2_with fail
      refine (intOf_any a3 out.length c3 out _ _ rfl z3 X1.out (by omega)).mono ?_
      rintro e w3 ⟨rfl, rfl⟩
      rw [V.out]
      unfold intEnd
      go_wp2_with fail
      refine (same_any a1 a4 rest.length c1 rest.length c4 rest rest w2 w2.heap.size rfl rfl ((q3.below p2).lt) z4.lt X2.out X2.out).mono ?_
      rintro e w5 ⟨rfl, rfl⟩
      go_wp2
      go_ret
      exact ⟨ret_bool (by simp), p12⟩
    · have V := Lib.hid (show intVal out = none by unfold intVal; rw [if_neg hi])
      rw [if_neg hi] at R
      clear hi
      go_enter Try.func24, Try.ntmps24
      go_wp2_with fail
      refine (tagOk_yes t _ t0 t1).mono ?_
      rintro e w' ⟨rfl, rfl⟩
      go_wp2_with fail
      refine (fits_any a n c _ h0).mono ?_
      rintro e w' ⟨rfl, rfl⟩
      go_wp2_with fail
      refine K.out.mono ?_
      intro e w1 hq
      rw [R.out] at hq
      obtain ⟨v1, v2, rfl, p1⟩ := hq
      go_wp2_with fail
      refine (D.out w1 p1).mono ?_
      intro e w2 hq
      unfold FOPost at hq
      rw [Hf.out] at hq
      obtain ⟨p2, a3, c3, a4, c4, rfl, _, _, _, _, z3, z4⟩ := hq
      have p12 := p1.trans (p2.mono p1.size)
      go_wp2_with fail
      refine (intOf_any a3 out.length c3 out _ _ rfl z3 X1.out (by omega)).mono ?_
      rintro e w3 ⟨rfl, rfl⟩
      rw [V.out]
      unfold intEnd
      go_wp2
      go_ret
      exact ⟨rfl, p12⟩

-- PRE (printed by gen_pre.py of this folder)
set_option maxRecDepth 100000 in
set_option maxHeartbeats 800000 in
theorem walk_FnExactReadInt64WithTag (w : World) (a : Option Addr) (n c : Nat) (xs : List Int) (hn : xs.length = n) (hb : BIn w w.heap.size a xs) (hx : Byt xs) (hc : n ≤ c) (hm : c ≤ maxLen) (t : Int) (wt : (Lit.int .i64 t).wf = true) :
    Calls Try.prog 24 #[.slice a n c, .int .i64 t] w fun e w' => e = .returned (.bool true) ∧ Below w.heap.size w w' := by
  by_cases ht : 0 ≤ t ∧ t ≤ 255
  · by_cases h0 : n ≤ 1048576
    · exact main_FnExactReadInt64WithTag w a n c xs hn hb hx hc hm h0 t ht.1 ht.2
    · by_cases hz : n ≤ 2147483647
      · have T := Lib.hid (tagOk_yes t w ht.1 ht.2)
        clear ht wt
        go_enter Try.func24, Try.ntmps24
        go_wp2_with fail
        refine T.out.mono ?_
        rintro e w' ⟨rfl, rfl⟩
        go_wp2_with fail
        refine (fits_no a n c _ (by omega)).mono ?_
        rintro e w' ⟨rfl, rfl⟩
        go_wp2
        go_ret
        exact ⟨rfl, Below.refl _ _⟩
      · clear ht wt
        go_enter Try.func24, Try.ntmps24
        go_wp2
        go_ret
        exact ⟨rfl, Below.refl _ _⟩
  · by_cases hz : n ≤ 2147483647
    · have T := Lib.hid (tagOk_no t w (by omega))
      clear ht wt
      go_enter Try.func24, Try.ntmps24
      go_wp2_with fail
      refine T.out.mono ?_
      rintro e w' ⟨rfl, rfl⟩
      go_wp2
      go_ret
      exact ⟨rfl, Below.refl _ _⟩
    · clear ht wt
      go_enter Try.func24, Try.ntmps24
      go_wp2
      go_ret
      exact ⟨rfl, Below.refl _ _⟩
end Go.Proofs.Ytcimjejbakgadaa
