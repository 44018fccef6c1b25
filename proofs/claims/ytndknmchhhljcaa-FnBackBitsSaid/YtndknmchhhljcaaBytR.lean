/- The contracts of readASN1Bytes, ReadASN1IntegerBytes, ReadASN1BitStringAsBytes. -/
import Derived.Test.YtndknmchhhljcaaIntC
import Derived.Test.YtndknmchhhljcaaDerAsn
namespace Go.Proofs.Ytndknmchhhljcaa
open Go.RowKit
set_option linter.unusedVariables false

def BytPost (B g go : Nat) (r : Option (List Int × List Int)) (w : World) (e : Ending) (w' : World) : Prop :=
  match r with
  | some (out, rest) => e = .returned (.bool true) ∧ Fr [g, go] w w' ∧ SlB w' B g 82 rest.length rest ∧ SlB w' B go 22 out.length out
  | none => e = .returned (.bool false) ∧ Fr [g, go] w w' ∧ Has w' B g 82 ∧ Has w' B go 22

theorem bytPost_yes {B g go : Nat} {r : Option (List Int × List Int)} {out rest : List Int} {w w' : World} (h : r = some (out, rest)) (f : Fr [g, go] w w') (s : SlB w' B g 82 rest.length rest) (k : SlB w' B go 22 out.length out) : BytPost B g go r w (.returned (.bool true)) w' := by
  subst h; exact ⟨rfl, f, s, k⟩
theorem bytPost_no {B g go : Nat} {r : Option (List Int × List Int)} {w w' : World} (h : r = none) (f : Fr [g, go] w w') (s : Has w' B g 82) (k : Has w' B go 22) : BytPost B g go r w (.returned (.bool false)) w' := by
  subst h; exact ⟨rfl, f, s, k⟩

/-- Without the zeros ahead, but for a last byte. -/
def dropz : List Int → List Int
  | x :: y :: r => if x = 0 then dropz (y :: r) else x :: y :: r
  | l => l

theorem dropz_step {xs : List Int} (h : 1 < xs.length) (h0 : xs.getD 0 0 = 0) : dropz (xs.drop 1) = dropz xs := by
  match xs, h, h0 with
  | x :: y :: r, _, h0 =>
    have : x = 0 := by simpa using h0
    subst this
    simp [dropz]
theorem dropz_one {xs : List Int} (h : ¬ 1 < xs.length) : dropz xs = xs := by
  match xs, h with
  | [], _ => rfl
  | [x], _ => rfl
  | x :: y :: r, h => simp at h
theorem dropz_done {xs : List Int} (h0 : xs.getD 0 0 ≠ 0) : dropz xs = xs := by
  match xs, h0 with
  | [], _ => rfl
  | [x], _ => rfl
  | x :: y :: r, h => simp at h; simp [dropz, h]

/-- The INTEGER from 0 on that bytes begin with, in bytes, and what stands behind it. -/
def magRead (xs : List Int) : Option (List Int × List Int) :=
  match firstOf xs 2 with
  | some (out, rest) => if isInteger out = true ∧ out.getD 0 0 < 128 then some (dropz out, rest) else none
  | none => none

theorem and128e {x : Int} (h0 : 0 ≤ x) (h1 : x < 256) : (bits .and .u8 x 128 == 128) = decide (128 ≤ x) := by
  rw [and128' h0 h1]
  by_cases h : x < 128
  · rw [if_pos h]; simp; omega
  · rw [if_neg h]; simp; omega

theorem sl_fromS (a : Option Addr) (n c : Nat) (k : Int) (m : Nat) (hk : k = m) (hn : m ≤ n) (w : World) :
    (Instr.sliceAt 82 (.slice a n c) (some (.int .i64 k)) none none).run Try.prog w = .ok (.slice (cutA a c m) (n - m) (c - m)) w := by
  subst hk
  have ht : Try.prog.underlying 82 = some (.slice (Try.prog.elem 82)) := by kernel_rfl
  have hs : ∀ w, (sizeOf (Try.prog.elem 82)).run Try.prog w = .ok 1 w := fun w => by kernel_rfl
  rw [run_sliceAt_slice w _ _ _ _ _ ht, run_slice_l w _ a n c ht _ _ (by omega) (by omega), hs]
  simp [Result.andThen, sliced, cutA]

end Go.Proofs.Ytndknmchhhljcaa
