/- The contract of laws.isInt. -/
import Derived.Test.YtcimjejbakgadaaSpecInt
import Derived.Test.YtcimjejbakgadaaImpInt
namespace Go.Proofs.Ytcimjejbakgadaa
open Go.RowKit
set_option linter.unusedVariables false

set_option maxRecDepth 100000 in
set_option maxHeartbeats 800000 in
theorem isInt_any (a : Option Addr) (n c : Nat) (xs : List Int) (t : Int) (B : Nat) (w : World) (hn : xs.length = n) (hc : n ≤ c) (hm : c ≤ maxLen) (hb : BIn w B a xs) (hBw : B ≤ w.heap.size) (hx : Byt xs) (hl : n ≤ 4194304000) :
    Calls Try.prog 69 #[.slice a n c, .int .i64 t] w fun e w' => e = .returned (.bool (intRead xs t).isSome) ∧ Below w.heap.size w w' := by
  have D := Lib.hid (firstOf_any a n c xs t B w hn hc hm hb hBw hx hl)
  have hxl : xs.length ≤ 4194304000 := by omega
  clear hn hb
  cases hf : firstOf xs t with
  | none =>
    have Hf := Lib.hid hf
    have R := Lib.hid (show (intRead xs t).isSome = false by unfold intRead; rw [hf]; rfl)
    have V := Lib.hid (show intVal [] = none by rfl)
    clear hf
    go_enter Try.func69, Try.ntmps69
    go_wp2_with fail
    refine D.out.mono ?_
    intro e w2 hq
    unfold FOPost at hq
    rw [Hf.out] at hq
    obtain ⟨p2, rfl⟩ := hq
    go_wp2_with fail
    refine (intOf_any none 0 0 [] 0 _ rfl (BIn.nil _ _ _) Byt.nil (by omega)).mono ?_
    rintro e w3 ⟨rfl, rfl⟩
    rw [V.out]
    unfold intEnd
    go_wp2
    go_ret
    exact ⟨ret_bool R.out.symm, p2⟩
  | some v =>
    obtain ⟨out, rest⟩ := v
    have Hf := Lib.hid hf
    have Hx : Byt out ∧ out.length ≤ 4194304000 := by
      obtain ⟨b, k, _, ho, hr, h3, h4, _⟩ := firstOf_inv hf
      subst ho; subst hr
      exact ⟨(hx.take _).drop _, by omega⟩
    obtain ⟨x1, x3⟩ := Hx
    have X1 := Lib.hid x1
    have R0 := (show intRead xs t = if isInteger out = true ∧ out.length ≤ 8 then some (sgn out, rest) else none by unfold intRead; rw [hf])
    have R := Lib.hid (show (intRead xs t).isSome = (intVal out).isSome by rw [R0]; unfold intVal; split <;> rfl)
    clear hf x1 hx R0
    cases hv : intVal out with
    | none =>
      rw [hv] at R
      have V := Lib.hid hv
      clear hv
      go_enter Try.func69, Try.ntmps69
      go_wp2_with fail
      refine D.out.mono ?_
      intro e w2 hq
      unfold FOPost at hq
      rw [Hf.out] at hq
      obtain ⟨p2, a3, c3, a4, c4, rfl, _, _, _, _, z3, z4⟩ := hq
      go_wp2_with fail
      refine (intOf_any a3 out.length c3 out _ _ rfl z3 X1.out (by omega)).mono ?_
      rintro e w3 ⟨rfl, rfl⟩
      rw [V.out]
      unfold intEnd
      go_wp2
      go_ret
      exact ⟨ret_bool (by rw [R.out]; rfl), p2⟩
    | some v =>
      rw [hv] at R
      have V := Lib.hid hv
      clear hv
      go_enter Try.func69, Try.ntmps69
      go_wp2_with fail
      refine D.out.mono ?_
      intro e w2 hq
      unfold FOPost at hq
      rw [Hf.out] at hq
      obtain ⟨p2, a3, c3, a4, c4, rfl, _, _, _, _, z3, z4⟩ := hq
      go_wp2_with fail
      refine (intOf_any a3 out.length c3 out _ _ rfl z3 X1.out (by omega)).mono ?_
      rintro e w3 ⟨rfl, rfl⟩
      rw [V.out]
      unfold intEnd
      go_wp2
      go_ret
      exact ⟨ret_bool (by rw [R.out]; rfl), p2⟩
end Go.Proofs.Ytcimjejbakgadaa
