/- The walk of laws.FnBitsBothWays. -/
import Derived.Test.YtcimjejbakgadaaLawBits
import Derived.Test.YtcimjejbakgadaaWFnExactReadBitsAsBytes
namespace Go.Proofs.Ytcimjejbakgadaa
open Go.RowKit
set_option linter.unusedVariables false

theorem pad_of_bits {xs : List Int} (hx : Byt xs) : padRead xs = (match bitRead xs with | some ((r, k), rest) => if k % 8 = 0 then some (r, rest) else none | none => none) := by
  cases hf : firstOf xs 3 with
  | none => unfold padRead bitRead; simp only [hf]
  | some v =>
    obtain ⟨out, rest⟩ := v
    have ho : Byt out := by obtain ⟨b, k, _, ho, _⟩ := firstOf_inv hf; rw [ho]; exact (hx.take _).drop _
    rw [pad_bits hf ho]
    unfold bitRead
    simp only [hf]
    cases bitsVal out with
    | none => rfl
    | some p => rfl
theorem bitRead_bd {xs r rest : List Int} {k : Int} (h : bitRead xs = some ((r, k), rest)) (hx : Byt xs) : 0 ≤ k ∧ k ≤ 8 * (xs.length : Int) ∧ Byt r ∧ Byt rest := by
  unfold bitRead at h
  cases hf : firstOf xs 3 with
  | none => rw [hf] at h; cases h
  | some v =>
    obtain ⟨out, rest'⟩ := v
    simp only [hf] at h
    obtain ⟨b, q, _, ho, hr, e3, e4, e5, _⟩ := firstOf_inv hf
    cases hv : bitsVal out with
    | none => simp only [hv] at h; cases h
    | some p =>
      simp only [hv] at h
      injection h with h
      injection h with h1 h2
      subst h1; subst h2
      obtain ⟨g1, g2, g3, g4⟩ := bitsVal_some hv (by rw [ho]; exact (hx.take _).drop _)
      exact ⟨g1, by omega, g3, by rw [hr]; exact hx.drop _⟩

set_option maxRecDepth 100000 in
set_option maxHeartbeats 1600000 in
theorem main_FnBitsBothWays (w : World) (a : Option Addr) (n c : Nat) (xs : List Int) (hn : xs.length = n) (hb : BIn w w.heap.size a xs) (hx : Byt xs) (hc : n ≤ c) (hm : c ≤ maxLen) (h0 : n ≤ 1048576) :
    Calls Try.prog 25 #[.slice a n c] w fun e w' => e = .returned (.bool true) ∧ Below w.heap.size w w' := by
  have K := Lib.hid (iReadBits_any a n c xs w hn hb hx (by omega))
  have D := Lib.hid (fun W (h : Below w.heap.size w W) => iReadPad_any a n c xs W hn ((hb.below h).lt) hx (by omega))
  have I := Lib.hid (fun W (h : Below w.heap.size w W) => isBits_any a n c xs w.heap.size W hn hc hm (hb.below h) h.size hx (by omega))
  have R := Lib.hid (pad_of_bits hx)
  cases hv : bitRead xs with
  | none =>
    have V := Lib.hid hv
    rw [hv] at R I
    clear hn hb hx hv
    go_enter Try.func25, Try.ntmps25
    go_wp2_with fail
    refine (fits_any a n c _ h0).mono ?_
    rintro e w' ⟨rfl, rfl⟩
    go_wp2_with fail
    refine K.out.mono ?_
    intro e w1 hq
    rw [V.out] at hq
    obtain ⟨v1, v2, v3, rfl, p1⟩ := hq
    go_wp2_with fail
    refine (D.out w1 p1).mono ?_
    intro e w2 hq
    rw [R.out] at hq
    obtain ⟨v4, v5, rfl, p2⟩ := hq
    have p12 := p1.trans (p2.mono p1.size)
    go_wp2_with fail
    refine (I.out w2 p12).mono ?_
    rintro e w3 ⟨rfl, p3⟩
    go_wp2
    go_ret
    exact ⟨rfl, p12.trans (p3.mono p12.size)⟩
  | some v =>
    obtain ⟨⟨o, k⟩, rest⟩ := v
    have V := Lib.hid hv
    obtain ⟨k0, k1, yo, yr⟩ := bitRead_bd hv hx
    have Yo := Lib.hid yo
    have Yr := Lib.hid yr
    have hk : k ≤ 8388608 := by omega
    rw [hv] at R I
    simp only at R
    clear hb hx hv k1 yo yr hn
    by_cases h8 : k % 8 = 0
    · rw [if_pos h8] at R
      have m1 : (k % 8 != 0) = false := by simp [h8]
      clear h8
      go_enter Try.func25, Try.ntmps25
      go_wp2_with fail
      refine (fits_any a n c _ h0).mono ?_
      rintro e w' ⟨rfl, rfl⟩
      go_wp2_with fail
      refine K.out.mono ?_
      intro e w1 hq
      rw [V.out] at hq
      obtain ⟨a1, c1, a2, c2, rfl, _, _, _, _, q3, q4, p1⟩ := hq
      go_wp2_with fail
      refine (D.out w1 p1).mono ?_
      intro e w2 hq
      rw [R.out] at hq
      obtain ⟨a3, c3, a4, c4, rfl, _, _, _, _, r3, r4, p2⟩ := hq
      have p12 := p1.trans (p2.mono p1.size)
      go_wp2_with fail
      refine (same_any a1 a3 o.length c1 o.length c3 o o w2 w2.heap.size rfl rfl ((q3.below p2).lt) r3 Yo.out Yo.out).mono ?_
      rintro e w3 ⟨rfl, rfl⟩
      have y1 : decide (o = o) = true := by simp
      rw [y1]
      go_wp2_with fail
      refine (same_any a2 a4 rest.length c2 rest.length c4 rest rest w2 w2.heap.size rfl rfl ((q4.below p2).lt) r4 Yr.out Yr.out).mono ?_
      rintro e w3 ⟨rfl, rfl⟩
      go_wp2
      go_ret
      exact ⟨ret_bool (by simp), p12⟩
    · rw [if_neg h8] at R
      have m1 : (k % 8 != 0) = true := by simp [h8]
      clear h8
      go_enter Try.func25, Try.ntmps25
      go_wp2_with fail
      refine (fits_any a n c _ h0).mono ?_
      rintro e w' ⟨rfl, rfl⟩
      go_wp2_with fail
      refine K.out.mono ?_
      intro e w1 hq
      rw [V.out] at hq
      obtain ⟨a1, c1, a2, c2, rfl, _, _, _, _, q3, q4, p1⟩ := hq
      go_wp2_with fail
      refine (D.out w1 p1).mono ?_
      intro e w2 hq
      rw [R.out] at hq
      obtain ⟨v4, v5, rfl, p2⟩ := hq
      have p12 := p1.trans (p2.mono p1.size)
      go_wp2_with fail
      refine (I.out w2 p12).mono ?_
      rintro e w3 ⟨rfl, p3⟩
      go_wp2
      go_ret
      exact ⟨rfl, p12.trans (p3.mono p12.size)⟩

-- PRE (printed by gen_pre.py of this folder)
set_option maxRecDepth 100000 in
set_option maxHeartbeats 800000 in
theorem walk_FnBitsBothWays (w : World) (a : Option Addr) (n c : Nat) (xs : List Int) (hn : xs.length = n) (hb : BIn w w.heap.size a xs) (hx : Byt xs) (hc : n ≤ c) (hm : c ≤ maxLen) :
    Calls Try.prog 25 #[.slice a n c] w fun e w' => e = .returned (.bool true) ∧ Below w.heap.size w w' := by
  by_cases h0 : n ≤ 1048576
  · exact main_FnBitsBothWays w a n c xs hn hb hx hc hm h0
  · by_cases hz : n ≤ 2147483647
    · go_enter Try.func25, Try.ntmps25
      go_wp2_with fail
      refine (fits_no a n c _ (by omega)).mono ?_
      rintro e w' ⟨rfl, rfl⟩
      go_wp2
      go_ret
      exact ⟨rfl, Below.refl _ _⟩
    · go_enter Try.func25, Try.ntmps25
      go_wp2
      go_ret
      exact ⟨rfl, Below.refl _ _⟩
end Go.Proofs.Ytcimjejbakgadaa
