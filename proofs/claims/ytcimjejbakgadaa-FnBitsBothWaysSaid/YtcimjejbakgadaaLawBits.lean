/- The contract of laws.isBits. (Printed by gen_ibits.py.) -/
import Derived.Test.YtcimjejbakgadaaImpBits
import Derived.Test.YtcimjejbakgadaaSpecOf
namespace Go.Proofs.Ytcimjejbakgadaa
open Go.RowKit
set_option linter.unusedVariables false

set_option maxRecDepth 100000 in
set_option maxHeartbeats 800000 in
theorem isBits_any (a : Option Addr) (n c : Nat) (xs : List Int) (B : Nat) (w : World) (hn : xs.length = n) (hc : n ≤ c) (hm : c ≤ maxLen) (hb : BIn w B a xs) (hBw : B ≤ w.heap.size) (hx : Byt xs) (hl : n ≤ 4194304000) :
    Calls Try.prog 65 #[.slice a n c] w fun e w' => e = .returned (.bool (bitRead xs).isSome) ∧ Below w.heap.size w w' := by
  have D := Lib.hid (firstOf_any a n c xs 3 B w hn hc hm hb hBw hx hl)
  have hxl : xs.length ≤ 4194304000 := by omega
  clear hn hb
  cases hf : firstOf xs 3 with
  | none =>
    have Hf := Lib.hid hf
    have R := Lib.hid (show (bitRead xs).isSome = false by unfold bitRead; rw [hf]; rfl)
    have V := Lib.hid (show bitsVal [] = none by rfl)
    clear hf
    go_enter Try.func65, Try.ntmps65
    go_wp2_with fail
    refine D.out.mono ?_
    intro e w2 hq
    unfold FOPost at hq
    rw [Hf.out] at hq
    obtain ⟨p2, rfl⟩ := hq
    go_wp2_with fail
    refine (bitsOf_any none 0 0 [] 0 _ rfl (Nat.le_refl _) (by simp [maxLen]) (BIn.nil _ _ _) Byt.nil (by omega)).mono ?_
    intro e w3 hq
    rw [V.out] at hq
    obtain ⟨p3, rfl⟩ := hq
    go_wp2
    go_ret
    exact ⟨ret_bool R.out.symm, p2.trans (p3.mono p2.size)⟩
  | some v =>
    obtain ⟨out, rest⟩ := v
    have Hf := Lib.hid hf
    have Hx : Byt out ∧ out.length ≤ 4194304000 := by
      obtain ⟨b, k, _, ho, hr, h3, h4, _⟩ := firstOf_inv hf
      subst ho; subst hr
      exact ⟨(hx.take _).drop _, by omega⟩
    obtain ⟨x1, x3⟩ := Hx
    have X1 := Lib.hid x1
    have X3 := Lib.hid x3
    have R0 := (show bitRead xs = (match bitsVal out with | some p => some (p, rest) | none => none) by unfold bitRead; simp only [hf]; cases bitsVal out <;> rfl)
    cases hv : bitsVal out with
    | none =>
      have R := Lib.hid (show (bitRead xs).isSome = false by rw [R0, hv]; rfl)
      have V := Lib.hid hv
      clear hf x1 hx R0 hv x3
      go_enter Try.func65, Try.ntmps65
      go_wp2_with fail
      refine D.out.mono ?_
      intro e w2 hq
      unfold FOPost at hq
      rw [Hf.out] at hq
      obtain ⟨p2, a3, c3, a4, c4, rfl, d1, d2, _, _, z3, z4⟩ := hq
      go_wp2_with fail
      refine (bitsOf_any a3 out.length c3 out _ _ rfl d1 d2 z3 X1.out X3.out).mono ?_
      intro e w3 hq
      rw [V.out] at hq
      obtain ⟨p3, rfl⟩ := hq
      go_wp2
      go_ret
      exact ⟨ret_bool R.out.symm, p2.trans (p3.mono p2.size)⟩
    | some p =>
      obtain ⟨bs, k⟩ := p
      have R := Lib.hid (show (bitRead xs).isSome = true by rw [R0, hv]; rfl)
      have V := Lib.hid hv
      clear hf x1 hx R0 hv x3
      go_enter Try.func65, Try.ntmps65
      go_wp2_with fail
      refine D.out.mono ?_
      intro e w2 hq
      unfold FOPost at hq
      rw [Hf.out] at hq
      obtain ⟨p2, a3, c3, a4, c4, rfl, d1, d2, _, _, z3, z4⟩ := hq
      go_wp2_with fail
      refine (bitsOf_any a3 out.length c3 out _ _ rfl d1 d2 z3 X1.out X3.out).mono ?_
      intro e w3 hq
      rw [V.out] at hq
      obtain ⟨p3, a5, c5, rfl, _, _, z5⟩ := hq
      go_wp2
      go_ret
      exact ⟨ret_bool R.out.symm, p2.trans (p3.mono p2.size)⟩
end Go.Proofs.Ytcimjejbakgadaa
