/- The contract of the reference's MagnitudeOf. -/
import Derived.Test.YtndknmchhhljcaaSpecInt
import Derived.Test.YtndknmchhhljcaaBytR
namespace Go.Proofs.Ytndknmchhhljcaa
open Go.RowKit
set_option linter.unusedVariables false

def magVal (xs : List Int) : Option (List Int) := if isInteger xs = true ∧ xs.getD 0 0 < 128 then some (dropz xs) else none

def MgPost (B : Nat) (r : Option (List Int)) (w : World) (e : Ending) (w' : World) : Prop :=
  Below w.heap.size w w' ∧
  match r with
  | some out => ∃ a1 c1, e = .returned (.tuple #[.slice a1 out.length c1, .bool true]) ∧ out.length ≤ c1 ∧ c1 ≤ maxLen ∧ BIn w' B a1 out
  | none => e = .returned (.tuple #[.slice none 0 0, .bool false])

theorem mg_no {B : Nat} {r : Option (List Int)} {w w' : World} (h : r = none) (hb : Below w.heap.size w w') : MgPost B r w (.returned (.tuple #[.slice none 0 0, .bool false])) w' := by
  subst h; exact ⟨hb, rfl⟩
theorem mg_yes {B : Nat} {r : Option (List Int)} {w w' : World} {out : List Int} {a1 : Option Addr} {n1 c1 : Nat} (h : r = some out) (hb : Below w.heap.size w w') (hn : out.length = n1) (hc : n1 ≤ c1) (hm : c1 ≤ maxLen) (hi : BIn w' B a1 out) : MgPost B r w (.returned (.tuple #[.slice a1 n1 c1, .bool true])) w' := by
  subst h; subst hn; exact ⟨hb, a1, c1, rfl, hc, hm, hi⟩

end Go.Proofs.Ytndknmchhhljcaa
