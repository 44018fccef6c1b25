/- Contracts of laws.isElement. -/
import Derived.Test.YtndknmchhhljcaaSpecOf
namespace Go.Proofs.Ytndknmchhhljcaa
open Go.RowKit
set_option linter.unusedVariables false

theorem isElement_any (a : Option Addr) (n c : Nat) (xs : List Int) (B : Nat) (w : World) (hn : xs.length = n) (hc : n ≤ c) (hb : BIn w B a xs) (hBw : B ≤ w.heap.size) (hx : Byt xs) (hl : n ≤ 4194304000) :
    Calls Try.prog 61 #[.slice a n c] w fun e w' => e = .returned (.bool (first xs).isSome) ∧ Below w.heap.size w w' := by
  have F := Lib.hid (first_any a n c xs B w hn hc hb hBw hx hl)
  cases hf : first xs with
  | none =>
    have E := Lib.hid (firstVal_none hf)
    clear hb hx hl hn hf
    go_enter Try.func61, Try.ntmps61
    go_wp2_with fail
    refine F.out.mono ?_
    rintro e w1 ⟨rfl, p1⟩
    rw [E.out]
    go_wp2
    go_ret
    exact ⟨rfl, p1.alloc p1.size _⟩
  | some v =>
    obtain ⟨t, b, k⟩ := v
    have E := Lib.hid (firstVal_some hf)
    clear hb hx hl hn hf
    go_enter Try.func61, Try.ntmps61
    go_wp2_with fail
    refine F.out.mono ?_
    rintro e w1 ⟨rfl, p1⟩
    rw [E.out]
    go_wp2
    go_ret
    exact ⟨rfl, p1.alloc p1.size _⟩
end Go.Proofs.Ytndknmchhhljcaa
