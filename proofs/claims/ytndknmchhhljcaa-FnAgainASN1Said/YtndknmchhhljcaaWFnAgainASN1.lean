/- The walk of laws.FnAgainASN1. (Printed by gen_laws4.py.) -/
import Derived.Test.YtndknmchhhljcaaAgain
import Derived.Test.YtndknmchhhljcaaImpDer
import Derived.Test.YtndknmchhhljcaaImpAny
import Derived.Test.YtndknmchhhljcaaLawElem
namespace Go.Proofs.Ytndknmchhhljcaa
open Go.RowKit
set_option linter.unusedVariables false

set_option maxRecDepth 100000 in
set_option maxHeartbeats 1600000 in
theorem main_FnAgainASN1 (w : World) (a : Option Addr) (n c : Nat) (xs : List Int) (hn : xs.length = n) (hb : BIn w w.heap.size a xs) (hx : Byt xs) (hc : n ≤ c) (hm : c ≤ maxLen) (h0 : n ≤ 1048576) :
    Calls Try.prog 21 #[.slice a n c] w fun e w' => e = .returned (.bool true) ∧ Below w.heap.size w w' := by
  have K := Lib.hid (iReadAny_any a n c xs w hn hb hx (by omega))
  have I := Lib.hid (fun W (h : Below w.heap.size w W) => isElement_any a n c xs w.heap.size W hn hc (hb.below h) h.size hx (by omega))
  have Hn := Lib.hid hn
  have HB := Lib.hid hb
  have Hx := Lib.hid hx
  cases hf : first xs with
  | none =>
    have Hf := Lib.hid hf
    rw [hf] at I
    clear hn hb hx hf
    go_enter Try.func21, Try.ntmps21
    go_wp2_with fail
    refine (fits_any a n c _ h0).mono ?_
    rintro e w' ⟨rfl, rfl⟩
    go_wp2_with fail
    refine K.out.mono ?_
    intro e w1 hq
    unfold AnyOf at hq
    rw [Hf.out] at hq
    obtain ⟨v1, v2, v3, rfl, p1⟩ := hq
    go_wp2_with fail
    refine (I.out w1 p1).mono ?_
    rintro e w2 ⟨rfl, p2⟩
    go_wp2
    go_ret
    exact ⟨rfl, p1.trans (p2.mono p1.size)⟩
  | some r =>
    obtain ⟨t, b, k⟩ := r
    have Hf := Lib.hid hf
    obtain ⟨b1, b2, b3, b4, b5, _⟩ := first_bounds hf
    have ht : 0 ≤ t ∧ t < 256 := by rw [← b4]; exact hx.getD 0
    have E := Lib.hid (again_eq hf hx (by omega))
    have Ho := Lib.hid (show ((xs.take k).drop b).length ≤ 1048576 by rw [List.length_drop, List.length_take]; omega)
    obtain ⟨out, hout⟩ : ∃ out, out = (xs.take k).drop b := ⟨_, rfl⟩
    obtain ⟨rest, hrest⟩ : ∃ rest, rest = xs.drop k := ⟨_, rfl⟩
    rw [← hout, ← hrest] at E
    rw [← hout] at Ho
    have Hout := Lib.hid hout.symm
    have Hrest := Lib.hid hrest.symm
    clear hout hrest
    obtain ⟨lo, hlo⟩ : ∃ lo, lo = out.length := ⟨_, rfl⟩
    obtain ⟨lr, hlr⟩ : ∃ lr, lr = rest.length := ⟨_, rfl⟩
    have Hlo := Lib.hid hlo.symm
    have Hlr := Lib.hid hlr.symm
    have A := Lib.hid (fun W a c (h : BIn W W.heap.size a out) => iASN1 W t a lo c out b5 ht.1 (by omega) hlo.symm h (by have := Ho.out; omega))
    obtain ⟨X, hX⟩ : ∃ X, X = derWrap t out := ⟨_, rfl⟩
    rw [← hX] at A E
    have HXl := Lib.hid (show X.length + rest.length = n by rw [← List.length_append, E.out]; exact hn)
    obtain ⟨m, hm'⟩ : ∃ m, m = X.length := ⟨_, rfl⟩
    have Hm := Lib.hid hm'.symm
    obtain ⟨t0, t1⟩ := ht
    clear hn hb hx hf b1 b2 b3 b4 b5 hlo hlr hX hm'
    go_enter Try.func21, Try.ntmps21
    go_wp2_with fail
    refine (fits_any a n c _ h0).mono ?_
    rintro e w' ⟨rfl, rfl⟩
    go_wp2_with fail
    refine K.out.mono ?_
    intro e w1 hq
    unfold AnyOf at hq
    rw [Hf.out] at hq
    simp only at hq
    rw [Hout.out, Hrest.out] at hq
    obtain ⟨a1, c1, a2, c2, rfl, _, _, _, _, q3, q4, p1⟩ := hq
    rw [Hlo.out, Hlr.out]
    go_wp2_with fail
    refine (A.out w1 a1 c1 q3).mono ?_
    rintro e w2 ⟨a3, c3, rfl, _, _, r3, p2⟩
    rw [Hm.out]
    have p12 := p1.trans (p2.mono p1.size)
    go_wp2_with fail
    refine (behind_any a3 a2 m c3 lr c2 X rest w2 Hm.out Hlr.out r3 ((q4.below p2).lt) (by have := HXl.out; have := Hm.out; have := Hlr.out; omega)).mono ?_
    rintro e w3 ⟨a5, c5, rfl, _, _, s3, p3, _⟩
    have p13 := p12.trans (p3.mono p12.size)
    rw [E.out] at s3
    have Z1 := Lib.hid (show xs.length = m + lr by have := HXl.out; have := Hm.out; have := Hlr.out; have := Hn.out; omega)
    go_wp2_with fail
    refine (same_any a5 a (m + lr) c5 n c xs xs w3 w3.heap.size Z1.out Hn.out s3 ((HB.out.below p13).lt) Hx.out Hx.out).mono ?_
    rintro e w4 ⟨rfl, rfl⟩
    go_wp2
    go_ret
    exact ⟨ret_bool (by simp), p13⟩

-- PRE (printed by gen_pre.py of this folder)
set_option maxRecDepth 100000 in
set_option maxHeartbeats 800000 in
theorem walk_FnAgainASN1 (w : World) (a : Option Addr) (n c : Nat) (xs : List Int) (hn : xs.length = n) (hb : BIn w w.heap.size a xs) (hx : Byt xs) (hc : n ≤ c) (hm : c ≤ maxLen) :
    Calls Try.prog 21 #[.slice a n c] w fun e w' => e = .returned (.bool true) ∧ Below w.heap.size w w' := by
  by_cases h0 : n ≤ 1048576
  · exact main_FnAgainASN1 w a n c xs hn hb hx hc hm h0
  · by_cases hz : n ≤ 2147483647
    · go_enter Try.func21, Try.ntmps21
      go_wp2_with fail
      refine (fits_no a n c _ (by omega)).mono ?_
      rintro e w' ⟨rfl, rfl⟩
      go_wp2
      go_ret
      exact ⟨rfl, Below.refl _ _⟩
    · go_enter Try.func21, Try.ntmps21
      go_wp2
      go_ret
      exact ⟨rfl, Below.refl _ _⟩
end Go.Proofs.Ytndknmchhhljcaa
