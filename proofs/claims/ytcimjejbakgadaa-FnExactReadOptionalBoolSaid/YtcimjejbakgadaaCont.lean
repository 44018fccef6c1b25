/- The contracts of (*Builder).callContinuation, and of the closure that it defers, where the continuation returns. -/
import Derived.Test.YtcimjejbakgadaaAddNum
import Derived.Defers
import Derived.Recover
namespace Go.Proofs.Ytcimjejbakgadaa
open Go.RowKit
set_option linter.unusedVariables false

/-- callContinuation on a builder whose flag is not set: the flag is set, the continuation runs and returns, the flag is struck. -/
def ContPost (gq : Nat) (S : List Nat) (Q : World → World → Prop) (w : World) (e : Ending) (w' : World) : Prop :=
  e = .returned (.tuple #[]) ∧ ∃ w1 w2, Fr [gq] w w1 ∧ Blk w1 gq 4 #[.bool true] ∧ Fr S w1 w2 ∧ Q w1 w2 ∧ w' = w2.setCell ⟨gq, 0, none⟩ (.bool false) ∧ Blk w2 gq 4 #[.bool true]

end Go.Proofs.Ytcimjejbakgadaa
