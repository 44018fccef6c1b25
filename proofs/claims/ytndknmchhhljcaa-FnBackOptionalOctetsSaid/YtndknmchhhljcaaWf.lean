/- The bounds that a well-formed literal of 64 bits keeps. -/
import Derived.Test.YtndknmchhhljcaaImpDer
namespace Go.Proofs.Ytndknmchhhljcaa
open Go.RowKit
theorem i64_wf {v : Int} (h : (Lit.int .i64 v).wf = true) : -9223372036854775808 ≤ v ∧ v ≤ 9223372036854775807 := by
  have h1 : IntKind.i64.min = -9223372036854775808 := rfl
  have h2 : IntKind.i64.max = 9223372036854775807 := rfl
  simp only [Lit.wf, Bool.and_eq_true, decide_eq_true_eq] at h
  omega
theorem u64_wf {v : Int} (h : (Lit.int .u64 v).wf = true) : 0 ≤ v ∧ v < 18446744073709551616 := by
  have h1 : IntKind.u64.min = 0 := rfl
  have h2 : IntKind.u64.max = 18446744073709551615 := rfl
  simp only [Lit.wf, Bool.and_eq_true, decide_eq_true_eq] at h
  omega
end Go.Proofs.Ytndknmchhhljcaa
