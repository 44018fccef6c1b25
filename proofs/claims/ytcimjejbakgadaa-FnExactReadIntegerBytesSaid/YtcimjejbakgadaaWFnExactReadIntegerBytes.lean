/- The walk of laws.FnExactReadIntegerBytes. -/
import Derived.Test.YtcimjejbakgadaaSpecMag
import Derived.Test.YtcimjejbakgadaaImpByt
import Derived.Test.YtcimjejbakgadaaSpec0
namespace Go.Proofs.Ytcimjejbakgadaa
open Go.RowKit
set_option linter.unusedVariables false

theorem dropz_byt {xs : List Int} (h : Byt xs) : Byt (dropz xs) := by
  obtain ⟨k, hk⟩ := dropz_tail xs
  rw [hk]; exact h.drop k

set_option maxRecDepth 100000 in
set_option maxHeartbeats 1600000 in
theorem main_FnExactReadIntegerBytes (w : World) (a : Option Addr) (n c : Nat) (xs : List Int) (hn : xs.length = n) (hb : BIn w w.heap.size a xs) (hx : Byt xs) (hc : n ≤ c) (hm : c ≤ maxLen) (h0 : n ≤ 1048576) :
    Calls Try.prog 23 #[.slice a n c] w fun e w' => e = .returned (.bool true) ∧ Below w.heap.size w w' := by
  have K := Lib.hid (iReadMag_any a n c xs w hn hb hx (by omega))
  have D := Lib.hid (fun W (hB : Below w.heap.size w W) => firstOf_any a n c xs 2 w.heap.size W hn hc hm (hb.below hB) hB.size hx (by omega))
  have hxl : xs.length ≤ 1048576 := by omega
  clear hn hb
  cases hf : firstOf xs 2 with
  | none =>
    have Hf := Lib.hid hf
    have R := Lib.hid (show magRead xs = none by unfold magRead; rw [hf])
    have V := Lib.hid (show magVal [] = none by rfl)
    clear hf
    go_enter Try.func23, Try.ntmps23
    go_wp2_with fail
    refine (fits_any a n c _ h0).mono ?_
    rintro e w' ⟨rfl, rfl⟩
    go_wp2_with fail
    refine K.out.mono ?_
    intro e w1 hq
    rw [R.out] at hq
    obtain ⟨v1, v2, rfl, p1⟩ := hq
    go_wp2_with fail
    refine (D.out w1 p1).mono ?_
    intro e w2 hq
    unfold FOPost at hq
    rw [Hf.out] at hq
    obtain ⟨p2, rfl⟩ := hq
    have p12 := p1.trans (p2.mono p1.size)
    go_wp2_with fail
    refine (magnitudeOf_any none 0 0 [] 0 _ rfl (Nat.le_refl _) (by simp [maxLen]) (BIn.nil _ _ _) Byt.nil).mono ?_
    intro e w3 hq
    rw [V.out] at hq
    obtain ⟨p3, rfl⟩ := hq
    have p13 := p12.trans (p3.mono p12.size)
    go_wp2
    go_ret
    exact ⟨rfl, p13⟩
  | some v =>
    obtain ⟨out, rest⟩ := v
    have Hf := Lib.hid hf
    have Hx : Byt out ∧ Byt rest ∧ out.length ≤ 1048576 := by
      obtain ⟨b, k, _, ho, hr, h3, h4, _⟩ := firstOf_inv hf
      subst ho; subst hr
      exact ⟨(hx.take _).drop _, hx.drop _, by omega⟩
    obtain ⟨x1, x2, x3⟩ := Hx
    have X1 := Lib.hid x1
    have X2 := Lib.hid x2
    have R0 : magRead xs = if isInteger out = true ∧ out.getD 0 0 < 128 then some (dropz out, rest) else none := by unfold magRead; rw [hf]
    have R := Lib.hid (show magRead xs = (magVal out).map (fun o => (o, rest)) by rw [R0]; unfold magVal; split <;> rfl)
    have Y := Lib.hid (show ∀ o, magVal out = some o → Byt o from by
      intro o h
      unfold magVal at h
      split at h
      · injection h with h; subst h; exact dropz_byt x1
      · cases h)
    clear hf x1 x2 hx R0
    cases hv : magVal out with
    | none =>
      have V := Lib.hid hv
      rw [hv] at R
      clear hv
      go_enter Try.func23, Try.ntmps23
      go_wp2_with fail
      refine (fits_any a n c _ h0).mono ?_
      rintro e w' ⟨rfl, rfl⟩
      go_wp2_with fail
      refine K.out.mono ?_
      intro e w1 hq
      rw [R.out] at hq
      obtain ⟨v1, v2, rfl, p1⟩ := hq
      go_wp2_with fail
      refine (D.out w1 p1).mono ?_
      intro e w2 hq
      unfold FOPost at hq
      rw [Hf.out] at hq
      obtain ⟨p2, a3, c3, a4, c4, rfl, d1, d2, _, _, z3, z4⟩ := hq
      have p12 := p1.trans (p2.mono p1.size)
      go_wp2_with fail
      refine (magnitudeOf_any a3 out.length c3 out _ _ rfl d1 d2 z3 X1.out).mono ?_
      intro e w3 hq
      rw [V.out] at hq
      obtain ⟨p3, rfl⟩ := hq
      have p13 := p12.trans (p3.mono p12.size)
      go_wp2
      go_ret
      exact ⟨rfl, p13⟩
    | some o =>
      have V := Lib.hid hv
      have Yo := Lib.hid (Y.out o hv)
      rw [hv] at R
      clear hv Y
      go_enter Try.func23, Try.ntmps23
      go_wp2_with fail
      refine (fits_any a n c _ h0).mono ?_
      rintro e w' ⟨rfl, rfl⟩
      go_wp2_with fail
      refine K.out.mono ?_
      intro e w1 hq
      rw [R.out] at hq
      obtain ⟨a1, c1, a2, c2, rfl, _, _, _, _, q3, q4, p1⟩ := hq
      go_wp2_with fail
      refine (D.out w1 p1).mono ?_
      intro e w2 hq
      unfold FOPost at hq
      rw [Hf.out] at hq
      obtain ⟨p2, a3, c3, a4, c4, rfl, d1, d2, _, _, z3, z4⟩ := hq
      have p12 := p1.trans (p2.mono p1.size)
      go_wp2_with fail
      refine (magnitudeOf_any a3 out.length c3 out _ _ rfl d1 d2 z3 X1.out).mono ?_
      intro e w3 hq
      rw [V.out] at hq
      obtain ⟨p3, a5, c5, rfl, _, _, z5⟩ := hq
      have p13 := p12.trans (p3.mono p12.size)
      have p23 := p2.trans (p3.mono p2.size)
      go_wp2_with fail
      refine (same_any a1 a5 o.length c1 o.length c5 o o w3 w3.heap.size rfl rfl ((q3.below p23).lt) z5.lt Yo.out Yo.out).mono ?_
      rintro e w5 ⟨rfl, rfl⟩
      have y1 : decide (o = o) = true := by simp
      rw [y1]
      go_wp2_with fail
      refine (same_any a2 a4 rest.length c2 rest.length c4 rest rest w3 w3.heap.size rfl rfl ((q4.below p23).lt) (((z4.lt).below p3).lt) X2.out X2.out).mono ?_
      rintro e w5 ⟨rfl, rfl⟩
      go_wp2
      go_ret
      exact ⟨ret_bool (by simp), p13⟩

-- PRE (printed by gen_pre.py of this folder)
set_option maxRecDepth 100000 in
set_option maxHeartbeats 800000 in
theorem walk_FnExactReadIntegerBytes (w : World) (a : Option Addr) (n c : Nat) (xs : List Int) (hn : xs.length = n) (hb : BIn w w.heap.size a xs) (hx : Byt xs) (hc : n ≤ c) (hm : c ≤ maxLen) :
    Calls Try.prog 23 #[.slice a n c] w fun e w' => e = .returned (.bool true) ∧ Below w.heap.size w w' := by
  by_cases h0 : n ≤ 1048576
  · exact main_FnExactReadIntegerBytes w a n c xs hn hb hx hc hm h0
  · by_cases hz : n ≤ 2147483647
    · go_enter Try.func23, Try.ntmps23
      go_wp2_with fail
      refine (fits_no a n c _ (by omega)).mono ?_
      rintro e w' ⟨rfl, rfl⟩
      go_wp2
      go_ret
      exact ⟨rfl, Below.refl _ _⟩
    · go_enter Try.func23, Try.ntmps23
      go_wp2
      go_ret
      exact ⟨rfl, Below.refl _ _⟩
end Go.Proofs.Ytcimjejbakgadaa
