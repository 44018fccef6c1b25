/- The contracts of ReadASN1IntegerBytes, ReadASN1BitStringAsBytes. -/
import Derived.Test.YtndknmchhhljcaaBytR
namespace Go.Proofs.Ytndknmchhhljcaa
open Go.RowKit
set_option linter.unusedVariables false

/-- The BIT STRING of whole bytes that bytes begin with, and what stands behind it. -/
def padRead (xs : List Int) : Option (List Int × List Int) :=
  match firstOf xs 3 with
  | some (x :: out, rest) => if x = 0 then some (out, rest) else none
  | _ => none

end Go.Proofs.Ytndknmchhhljcaa
