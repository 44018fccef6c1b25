/- The contract of (*Builder).addLengthPrefixed on a builder that has had no continuation yet, where the continuation adds bytes and returns. -/
import Derived.Test.YtcimjejbakgadaaFlush
import Derived.BigRegion
namespace Go.Proofs.Ytcimjejbakgadaa
open Go.RowKit
set_option linter.unusedVariables false

end Go.Proofs.Ytcimjejbakgadaa
