/- The contracts of ReadAnyASN1Element and ReadASN1Element: the whole first element. -/
import Derived.Test.YtndknmchhhljcaaDerAsn
namespace Go.Proofs.Ytndknmchhhljcaa
open Go.RowKit
set_option linter.unusedVariables false

theorem readAnyElem_any (g go gt : Nat) (vo : Value) (n : Nat) (xs : List Int) (z : Int) (B : Nat) (w : World)
    (hs : SlB w B g 82 n xs) (ho : Blk w go 82 #[vo]) (ht : Blk w gt 92 #[.int .u8 z]) (h1 : g ≠ go) (h2 : g ≠ gt) (h3 : go ≠ gt) (hB : B ≤ g) (hBo : B ≤ go) (hBt : B ≤ gt) (hl : Lim n) :
    Calls Try.prog 112 #[.pointer (some ⟨g, 0, none⟩), .pointer (some ⟨go, 0, none⟩), .pointer (some ⟨gt, 0, none⟩)] w (DerPost false B g go gt 82 n xs vo w) := by
  have H := Lib.hid (readASN1_any false g go gt 82 (fun h => by cases h) vo n xs z B w hs ho ht h1 h2 h3 hB hBo hBt hl)
  clear hs ho ht
  go_enter Try.func112, Try.ntmps112
  go_wp2_with fail
  refine H.out.mono ?_
  intro e w' hp
  rcases hp with ⟨hf, rfl, hp⟩ | ⟨t, b, k, hf, rfl, hp⟩
  · have hf' := Lib.hid hf
    clear hf
    go_wp2
    go_ret
    exact .inl ⟨hf'.out, rfl, hp⟩
  · have hf' := Lib.hid hf
    clear hf
    go_wp2
    go_ret
    exact .inr ⟨t, b, k, hf'.out, rfl, hp⟩

/-- The whole first element, and what stands behind it, where it is of that tag. -/
def elemOf (xs : List Int) (tag : Int) : Option (List Int × List Int) :=
  match first xs with
  | some (t, b, k) => if t = tag then some (xs.take k, xs.drop k) else none
  | none => none
theorem elemOf_none {xs : List Int} {tag : Int} (h : first xs = none) : elemOf xs tag = none := by simp only [elemOf, h]
theorem elemOf_some {xs : List Int} {tag t : Int} {b k : Nat} (h : first xs = some (t, b, k)) : elemOf xs tag = if t = tag then some (xs.take k, xs.drop k) else none := by simp only [elemOf, h]
theorem elemOf_inv {xs out rest : List Int} {tag : Int} (h : elemOf xs tag = some (out, rest)) : ∃ b k, first xs = some (tag, b, k) ∧ out = xs.take k ∧ rest = xs.drop k ∧ out.length = k ∧ rest.length = xs.length - k ∧ k ≤ xs.length ∧ 2 ≤ b ∧ b ≤ k := by
  cases hf : first xs with
  | none => rw [elemOf_none hf] at h; cases h
  | some v =>
    obtain ⟨t, b, k⟩ := v
    rw [elemOf_some hf] at h
    split at h
    · rename_i ht
      subst ht
      injection h with h
      injection h with h1 h2
      subst h1; subst h2
      have hb := first_bounds hf
      exact ⟨b, k, rfl, rfl, rfl, by rw [List.length_take]; omega, by rw [List.length_drop], hb.2.2.1, hb.1, hb.2.1⟩
    · cases h

def ElYes (B g go : Nat) (out rest : List Int) (w : World) (e : Ending) (w' : World) : Prop :=
  e = .returned (.bool true) ∧ Fr [g, go] w w' ∧ SlB w' B g 82 rest.length rest ∧ SlB w' B go 82 out.length out
def ElNo (B g go : Nat) (w : World) (e : Ending) (w' : World) : Prop :=
  e = .returned (.bool false) ∧ Fr [g, go] w w' ∧ Has w' B g 82 ∧ Has w' B go 82

/-- The two ends of a reading by a tag. -/
def ElPost (B g go : Nat) (xs : List Int) (tag : Int) (w : World) (e : Ending) (w' : World) : Prop :=
  match elemOf xs tag with
  | some (out, rest) => ElYes B g go out rest w e w'
  | none => ElNo B g go w e w'

end Go.Proofs.Ytndknmchhhljcaa
