/- A Builder in memory, and the contracts of (*Builder).add, Bytes, and of the thin package's bytesOf (builders that are not fixed and have no child). -/
import Derived.Test.YtcimjejbakgadaaSpec0
import Derived.Test.YtcimjejbakgadaaBig
import Derived.Outline
import Derived.Deep.DeepMust
import Derived.BigQuiet
import Derived.Deep.QuietTactic
namespace Go.Proofs.Ytcimjejbakgadaa
open Go.RowKit
set_option linter.unusedVariables false

/-- The cells of a builder that is not fixed, and has no error and no child. -/
abbrev bCs (v : Value) (off pl : Int) (pa : Bool) (ic : Value) : Array Value := #[.nilIface, v, .bool false, .pointer none, .int .i64 off, .int .i64 pl, .bool pa, ic]

/-- A row's block is none of another type's. -/
theorem OwnB.ne_blk {w : World} {base e g : Nat} {v : Value} {xs : List Int} {t : TypeId} {cs : Array Value} (h : OwnB w base e v xs) (hg : Blk w g t cs) (hne : e ≠ t) : v.ownBlock ≠ some g := by
  rcases h.2 with ⟨rfl, _⟩ | ⟨g', cap, cur, rfl, _, hh, _⟩
  · simp [Value.ownBlock]
  · intro he
    have : g' = g := by simpa [Value.ownBlock] using he
    subst this
    unfold Blk at hg
    rw [hh] at hg
    injection hg with hg
    injection hg with _ ht
    exact hne ht
theorem OwnB.lt {w : World} {base e : Nat} {v : Value} {xs : List Int} (h : OwnB w base e v xs) : ∀ k, v.ownBlock = some k → base ≤ k ∧ k < w.heap.size := World.ownsRow.lt h

/-- A slice of the call's own and 'true' are handed back. -/
def GotPost (w : World) (xs : List Int) (e : Ending) (w' : World) : Prop :=
  ∃ a c, e = .returned (.tuple #[.slice a xs.length c, .bool true]) ∧ xs.length ≤ c ∧ c ≤ maxLen ∧ BIn w' w'.heap.size a xs ∧ Below w.heap.size w w'

end Go.Proofs.Ytcimjejbakgadaa
