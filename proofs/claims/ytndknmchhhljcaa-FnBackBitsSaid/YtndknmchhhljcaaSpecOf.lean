/- The contract of the reference's FirstOf. -/
import Derived.Test.YtndknmchhhljcaaSpecDer
namespace Go.Proofs.Ytndknmchhhljcaa
open Go.RowKit
set_option linter.unusedVariables false

/-- 's[i:j]' of bytes, laid ahead of a walk. -/
theorem sl_mid (a : Option Addr) (n c : Nat) (i j : Int) (l m : Nat) (hi : i = l) (hj : j = m) (hl : l ≤ m) (hm : m ≤ c) (w : World) :
    (Instr.sliceAt 22 (.slice a n c) (some (.int .i64 i)) (some (.int .i64 j)) none).run Try.prog w = .ok (.slice (cutA a c l) (m - l) (c - l)) w := by
  subst hi; subst hj
  have ht : Try.prog.underlying 22 = some (.slice (Try.prog.elem 22)) := by kernel_rfl
  have hs : ∀ w, (sizeOf (Try.prog.elem 22)).run Try.prog w = .ok 1 w := fun w => by kernel_rfl
  rw [run_sliceAt_slice w _ _ _ _ _ ht, run_slice_lh w _ a n c ht _ _ _ _ (by omega) (by omega) (by omega), hs]
  simp [Result.andThen, sliced, cutA]

/-- What FirstOf hands back: the contents and what stands behind them, of the bytes that came in. -/
def FOPost (B : Nat) (xs : List Int) (tag : Int) (w : World) (e : Ending) (w' : World) : Prop :=
  Below w.heap.size w w' ∧
  match firstOf xs tag with
  | some (out, rest) => ∃ a1 c1 a2 c2, e = .returned (.tuple #[.slice a1 out.length c1, .slice a2 rest.length c2, .bool true]) ∧ out.length ≤ c1 ∧ c1 ≤ maxLen ∧ rest.length ≤ c2 ∧ c2 ≤ maxLen ∧ BIn w' B a1 out ∧ BIn w' B a2 rest
  | none => e = .returned (.tuple #[.slice none 0 0, .slice none 0 0, .bool false])

theorem foPost_none {B : Nat} {xs : List Int} {tag : Int} {w w' : World} (h : firstOf xs tag = none) (hb : Below w.heap.size w w') : FOPost B xs tag w (.returned (.tuple #[.slice none 0 0, .slice none 0 0, .bool false])) w' := by
  refine ⟨hb, ?_⟩
  rw [h]

end Go.Proofs.Ytndknmchhhljcaa
