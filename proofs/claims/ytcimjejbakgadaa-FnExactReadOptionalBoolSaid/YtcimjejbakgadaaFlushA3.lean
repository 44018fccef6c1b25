/- The contract of (*Builder).flushChild for a child of ASN.1, by the length of its length. (Printed by gen_flush.py.) -/
import Derived.Test.YtcimjejbakgadaaFlush
namespace Go.Proofs.Ytcimjejbakgadaa
open Go.RowKit
set_option linter.unusedVariables false

end Go.Proofs.Ytcimjejbakgadaa
