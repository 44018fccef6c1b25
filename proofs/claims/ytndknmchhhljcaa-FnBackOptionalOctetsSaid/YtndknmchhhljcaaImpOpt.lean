/- The contract of impl.ReadOptional. -/
import Derived.Test.YtndknmchhhljcaaDerOpt
import Derived.Test.YtndknmchhhljcaaImpAny
namespace Go.Proofs.Ytndknmchhhljcaa
open Go.RowKit
set_option linter.unusedVariables false

def QPost (w : World) (out : List Int) (pres : Bool) (rest : List Int) (ok : Bool) (e : Ending) (w' : World) : Prop :=
  ∃ a1 c1 a2 c2, e = .returned (.tuple #[.slice a1 out.length c1, .bool pres, .slice a2 rest.length c2, .bool ok]) ∧ out.length ≤ c1 ∧ c1 ≤ maxLen ∧ rest.length ≤ c2 ∧ c2 ≤ maxLen ∧ BIn w' w'.heap.size a1 out ∧ BIn w' w'.heap.size a2 rest ∧ Below w.heap.size w w'
def OptOf (xs : List Int) (tag : Int) (w : World) (e : Ending) (w' : World) : Prop :=
  ∃ (ok : Bool) (y1 y2 : List Int), QPost w y2 (isTag xs tag) y1 ok e w' ∧ (isTag xs tag = false → ok = true ∧ y1 = xs) ∧ (isTag xs tag = true → (firstOf xs tag).isSome = ok ∧ ∀ out rest, firstOf xs tag = some (out, rest) → y1 = rest ∧ y2 = out)

end Go.Proofs.Ytndknmchhhljcaa
