/- The contract of laws.tagged. -/
import Derived.Test.YtcimjejbakgadaaSpecOf
namespace Go.Proofs.Ytcimjejbakgadaa
open Go.RowKit
set_option linter.unusedVariables false

theorem tagged_any (a : Option Addr) (n c : Nat) (xs : List Int) (tag : Int) (B : Nat) (w : World) (hn : xs.length = n) (hc : n ≤ c) (hm : c ≤ maxLen) (hb : BIn w B a xs) (hBw : B ≤ w.heap.size) (hx : Byt xs) (hl : n ≤ 4194304000) :
    Calls Try.prog 56 #[.slice a n c, .int .i64 tag] w fun e w' => e = .returned (.bool (firstOf xs tag).isSome) ∧ Below w.heap.size w w' := by
  have F := Lib.hid (firstOf_any a n c xs tag B w hn hc hm hb hBw hx hl)
  cases hf : firstOf xs tag with
  | none =>
    have Hf := Lib.hid hf
    clear hb hx hl hn hf
    go_enter Try.func56, Try.ntmps56
    go_wp2_with fail
    refine F.out.mono ?_
    intro e w1 hp
    obtain ⟨p1, p2⟩ := hp
    rw [Hf.out] at p2
    simp only at p2
    subst p2
    go_wp2
    go_ret
    exact ⟨rfl, p1⟩
  | some v =>
    obtain ⟨out, rest⟩ := v
    have Hf := Lib.hid hf
    clear hb hx hl hn hf
    go_enter Try.func56, Try.ntmps56
    go_wp2_with fail
    refine F.out.mono ?_
    intro e w1 hp
    obtain ⟨p1, p2⟩ := hp
    rw [Hf.out] at p2
    obtain ⟨a1, c1, a2, c2, rfl, _⟩ := p2
    go_wp2
    go_ret
    exact ⟨rfl, p1⟩
end Go.Proofs.Ytcimjejbakgadaa
