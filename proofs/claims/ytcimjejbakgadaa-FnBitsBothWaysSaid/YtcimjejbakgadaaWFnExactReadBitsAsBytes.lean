/- The walk of laws.FnExactReadBitsAsBytes. -/
import Derived.Test.YtcimjejbakgadaaSpecBits
import Derived.Test.YtcimjejbakgadaaImpByt
import Derived.Test.YtcimjejbakgadaaSpec0
namespace Go.Proofs.Ytcimjejbakgadaa
open Go.RowKit
set_option linter.unusedVariables false

theorem bitsVal_cons (x : Int) (r : List Int) : bitsVal (x :: r) = if 7 < x ∨ (r = [] ∧ x ≠ 0) ∨ (r ≠ [] ∧ r.getD (r.length - 1) 0 % 2 ^ x.toNat ≠ 0) then none else some (r, 8 * (r.length : Int) - x) := rfl
theorem bitsVal_some {out r : List Int} {k : Int} (h : bitsVal out = some (r, k)) (hx : Byt out) : 0 ≤ k ∧ k ≤ 8 * (r.length : Int) ∧ Byt r ∧ out.length = r.length + 1 := by
  cases out with
  | nil => cases h
  | cons x l =>
    rw [bitsVal_cons] at h
    split at h
    · cases h
    · rename_i hc
      injection h with h; injection h with h1 h2; subst h1
      obtain ⟨x0, _⟩ := hx x (by simp)
      refine ⟨?_, by omega, fun y hy => hx y (List.mem_cons_of_mem _ hy), rfl⟩
      cases l with
      | nil => simp at hc; simp at h2; omega
      | cons y l => simp at h2 ⊢; simp at hc; omega

theorem pad_bits {xs out rest : List Int} (hf : firstOf xs 3 = some (out, rest)) (hx : Byt out) :
    padRead xs = (match bitsVal out with | some (r, k) => if k % 8 = 0 then some (r, rest) else none | none => none) := by
  unfold padRead
  rw [hf]
  cases out with
  | nil => rfl
  | cons x l =>
    obtain ⟨x0, _⟩ := hx x (by simp)
    simp only
    rw [bitsVal_cons]
    by_cases hx0 : x = 0
    · subst hx0
      rw [if_pos rfl, if_neg (by simp <;> omega)]
      simp only
      rw [if_pos (by omega)]
    · rw [if_neg hx0]
      by_cases hc : 7 < x ∨ (l = [] ∧ x ≠ 0) ∨ (l ≠ [] ∧ l.getD (l.length - 1) 0 % 2 ^ x.toNat ≠ 0)
      · rw [if_pos hc]
      · rw [if_neg hc]
        simp only
        rw [if_neg (by omega)]

set_option maxRecDepth 100000 in
set_option maxHeartbeats 1600000 in
theorem main_FnExactReadBitsAsBytes (w : World) (a : Option Addr) (n c : Nat) (xs : List Int) (hn : xs.length = n) (hb : BIn w w.heap.size a xs) (hx : Byt xs) (hc : n ≤ c) (hm : c ≤ maxLen) (h0 : n ≤ 1048576) :
    Calls Try.prog 19 #[.slice a n c] w fun e w' => e = .returned (.bool true) ∧ Below w.heap.size w w' := by
  have K := Lib.hid (iReadPad_any a n c xs w hn hb hx (by omega))
  have D := Lib.hid (fun W (hB : Below w.heap.size w W) => firstOf_any a n c xs 3 w.heap.size W hn hc hm (hb.below hB) hB.size hx (by omega))
  have hxl : xs.length ≤ 1048576 := by omega
  clear hn hb
  cases hf : firstOf xs 3 with
  | none =>
    have Hf := Lib.hid hf
    have R := Lib.hid (show padRead xs = none by unfold padRead; rw [hf])
    have V := Lib.hid (show bitsVal [] = none by rfl)
    clear hf
    go_enter Try.func19, Try.ntmps19
    go_wp2_with fail
    refine (fits_any a n c _ h0).mono ?_
    rintro e w' ⟨rfl, rfl⟩
    go_wp2_with fail
    refine K.out.mono ?_
    intro e w1 hq
    rw [R.out] at hq
    obtain ⟨v1, v2, rfl, p1⟩ := hq
    go_wp2_with fail
    refine (D.out w1 p1).mono ?_
    intro e w2 hq
    unfold FOPost at hq
    rw [Hf.out] at hq
    obtain ⟨p2, rfl⟩ := hq
    have p12 := p1.trans (p2.mono p1.size)
    go_wp2_with fail
    refine (bitsOf_any none 0 0 [] 0 _ rfl (Nat.le_refl _) (by simp [maxLen]) (BIn.nil _ _ _) Byt.nil (by omega)).mono ?_
    intro e w3 hq
    rw [V.out] at hq
    obtain ⟨p3, rfl⟩ := hq
    have p13 := p12.trans (p3.mono p12.size)
    go_wp2
    go_ret
    exact ⟨rfl, p13⟩
  | some v =>
    obtain ⟨out, rest⟩ := v
    have Hf := Lib.hid hf
    have Hx : Byt out ∧ Byt rest ∧ out.length ≤ 1048576 := by
      obtain ⟨b, k, _, ho, hr, h3, h4, _⟩ := firstOf_inv hf
      subst ho; subst hr
      exact ⟨(hx.take _).drop _, hx.drop _, by omega⟩
    obtain ⟨x1, x2, x3⟩ := Hx
    have x5 : out.length ≤ 4194304000 := by omega
    have X5 := Lib.hid x5
    clear x5
    have X1 := Lib.hid x1
    have X2 := Lib.hid x2
    have R := Lib.hid (pad_bits hf x1)
    have Y := Lib.hid (fun r k h => @bitsVal_some out r k h x1)
    clear hf x1 x2 hx
    cases hv : bitsVal out with
    | none =>
      have V := Lib.hid hv
      rw [hv] at R
      clear hv
      go_enter Try.func19, Try.ntmps19
      go_wp2_with fail
      refine (fits_any a n c _ h0).mono ?_
      rintro e w' ⟨rfl, rfl⟩
      go_wp2_with fail
      refine K.out.mono ?_
      intro e w1 hq
      rw [R.out] at hq
      obtain ⟨v1, v2, rfl, p1⟩ := hq
      go_wp2_with fail
      refine (D.out w1 p1).mono ?_
      intro e w2 hq
      unfold FOPost at hq
      rw [Hf.out] at hq
      obtain ⟨p2, a3, c3, a4, c4, rfl, d1, d2, _, _, z3, z4⟩ := hq
      have p12 := p1.trans (p2.mono p1.size)
      go_wp2_with fail
      refine (bitsOf_any a3 out.length c3 out _ _ rfl d1 d2 z3 X1.out X5.out).mono ?_
      intro e w3 hq
      rw [V.out] at hq
      obtain ⟨p3, rfl⟩ := hq
      have p13 := p12.trans (p3.mono p12.size)
      go_wp2
      go_ret
      exact ⟨rfl, p13⟩
    | some v =>
      obtain ⟨o, k⟩ := v
      have V := Lib.hid hv
      obtain ⟨k0, k1, yo, ye⟩ := Y.out o k hv
      have Yo := Lib.hid yo
      rw [hv] at R
      simp only at R
      clear hv Y yo
      have hk : k ≤ 8388608 := by omega
      clear k1 ye
      by_cases h8 : k % 8 = 0
      · rw [if_pos h8] at R
        have m1 : (k % 8 == 0) = true := by simpa using h8
        clear h8
        go_enter Try.func19, Try.ntmps19
        go_wp2_with fail
        refine (fits_any a n c _ h0).mono ?_
        rintro e w' ⟨rfl, rfl⟩
        go_wp2_with fail
        refine K.out.mono ?_
        intro e w1 hq
        rw [R.out] at hq
        obtain ⟨a1, c1, a2, c2, rfl, _, _, _, _, q3, q4, p1⟩ := hq
        go_wp2_with fail
        refine (D.out w1 p1).mono ?_
        intro e w2 hq
        unfold FOPost at hq
        rw [Hf.out] at hq
        obtain ⟨p2, a3, c3, a4, c4, rfl, d1, d2, _, _, z3, z4⟩ := hq
        have p12 := p1.trans (p2.mono p1.size)
        go_wp2_with fail
        refine (bitsOf_any a3 out.length c3 out _ _ rfl d1 d2 z3 X1.out X5.out).mono ?_
        intro e w3 hq
        rw [V.out] at hq
        obtain ⟨p3, a5, c5, rfl, _, _, z5⟩ := hq
        have p13 := p12.trans (p3.mono p12.size)
        have p23 := p2.trans (p3.mono p2.size)
        go_wp2_with fail
        refine (same_any a1 a5 o.length c1 o.length c5 o o w3 w3.heap.size rfl rfl ((q3.below p23).lt) z5.lt Yo.out Yo.out).mono ?_
        rintro e w5 ⟨rfl, rfl⟩
        have y1 : decide (o = o) = true := by simp
        rw [y1]
        go_wp2_with fail
        refine (same_any a2 a4 rest.length c2 rest.length c4 rest rest w3 w3.heap.size rfl rfl ((q4.below p23).lt) (((z4.lt).below p3).lt) X2.out X2.out).mono ?_
        rintro e w5 ⟨rfl, rfl⟩
        go_wp2
        go_ret
        exact ⟨ret_bool (by simp), p13⟩
      · rw [if_neg h8] at R
        have m1 : (k % 8 == 0) = false := by simpa using h8
        clear h8
        go_enter Try.func19, Try.ntmps19
        go_wp2_with fail
        refine (fits_any a n c _ h0).mono ?_
        rintro e w' ⟨rfl, rfl⟩
        go_wp2_with fail
        refine K.out.mono ?_
        intro e w1 hq
        rw [R.out] at hq
        obtain ⟨v1, v2, rfl, p1⟩ := hq
        go_wp2_with fail
        refine (D.out w1 p1).mono ?_
        intro e w2 hq
        unfold FOPost at hq
        rw [Hf.out] at hq
        obtain ⟨p2, a3, c3, a4, c4, rfl, d1, d2, _, _, z3, z4⟩ := hq
        have p12 := p1.trans (p2.mono p1.size)
        go_wp2_with fail
        refine (bitsOf_any a3 out.length c3 out _ _ rfl d1 d2 z3 X1.out X5.out).mono ?_
        intro e w3 hq
        rw [V.out] at hq
        obtain ⟨p3, a5, c5, rfl, _, _, z5⟩ := hq
        have p13 := p12.trans (p3.mono p12.size)
        go_wp2
        go_ret
        exact ⟨rfl, p13⟩

-- PRE (printed by gen_pre.py of this folder)
set_option maxRecDepth 100000 in
set_option maxHeartbeats 800000 in
theorem walk_FnExactReadBitsAsBytes (w : World) (a : Option Addr) (n c : Nat) (xs : List Int) (hn : xs.length = n) (hb : BIn w w.heap.size a xs) (hx : Byt xs) (hc : n ≤ c) (hm : c ≤ maxLen) :
    Calls Try.prog 19 #[.slice a n c] w fun e w' => e = .returned (.bool true) ∧ Below w.heap.size w w' := by
  by_cases h0 : n ≤ 1048576
  · exact main_FnExactReadBitsAsBytes w a n c xs hn hb hx hc hm h0
  · by_cases hz : n ≤ 2147483647
    · go_enter Try.func19, Try.ntmps19
      go_wp2_with fail
      refine (fits_no a n c _ (by omega)).mono ?_
      rintro e w' ⟨rfl, rfl⟩
      go_wp2
      go_ret
      exact ⟨rfl, Below.refl _ _⟩
    · go_enter Try.func19, Try.ntmps19
      go_wp2
      go_ret
      exact ⟨rfl, Below.refl _ _⟩
end Go.Proofs.Ytcimjejbakgadaa
