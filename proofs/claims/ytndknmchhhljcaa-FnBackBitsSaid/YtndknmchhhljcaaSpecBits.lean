/- The contract of the reference's BitsOf. -/
import Derived.Test.YtndknmchhhljcaaSpecMag
namespace Go.Proofs.Ytndknmchhhljcaa
open Go.RowKit
set_option linter.unusedVariables false

/-- The bits that contents tell, in bytes, and how many they are. -/
def bitsVal : List Int → Option (List Int × Int)
  | [] => none
  | x :: r => if 7 < x ∨ (r = [] ∧ x ≠ 0) ∨ (r ≠ [] ∧ r.getD (r.length - 1) 0 % 2 ^ x.toNat ≠ 0) then none else some (r, 8 * (r.length : Int) - x)

def BtPost (B : Nat) (r : Option (List Int × Int)) (w : World) (e : Ending) (w' : World) : Prop :=
  Below w.heap.size w w' ∧
  match r with
  | some (out, k) => ∃ a1 c1, e = .returned (.tuple #[.slice a1 out.length c1, .int .i64 k, .bool true]) ∧ out.length ≤ c1 ∧ c1 ≤ maxLen ∧ BIn w' B a1 out
  | none => e = .returned (.tuple #[.slice none 0 0, .int .i64 0, .bool false])

theorem bt_no {B : Nat} {r : Option (List Int × Int)} {w w' : World} (h : r = none) (hb : Below w.heap.size w w') : BtPost B r w (.returned (.tuple #[.slice none 0 0, .int .i64 0, .bool false])) w' := by
  subst h; exact ⟨hb, rfl⟩
theorem bt_yes {B : Nat} {r : Option (List Int × Int)} {w w' : World} {out : List Int} {k k' : Int} {a1 : Option Addr} {n1 c1 : Nat} (h : r = some (out, k)) (hb : Below w.heap.size w w') (hk : k' = k) (hn : out.length = n1) (hc : n1 ≤ c1) (hm : c1 ≤ maxLen) (hi : BIn w' B a1 out) : BtPost B r w (.returned (.tuple #[.slice a1 n1 c1, .int .i64 k', .bool true])) w' := by
  subst h; subst hn; subst hk; exact ⟨hb, a1, c1, rfl, hc, hm, hi⟩

theorem bt_tail {w : World} {B o c b : Nat} {x : Int} {r : List Int} (h : BIn w B (some ⟨b, o, none⟩) (x :: r)) (hc : r.length + 1 ≤ c) : BIn w B (cutA (some ⟨b, o, none⟩) c 1) r := h.cut (k := 1) hc
theorem drew1 (w : World) (m : Nat) : Below w.heap.size w (w.drewN m) := ((Fr.refl [] w).drewN m).below (by simp) (Nat.le_refl _)
theorem drew2 (w : World) (m k : Nat) : Below w.heap.size w ((w.drewN m).drewN k) := (((Fr.refl [] w).drewN m).drewN k).below (by simp) (Nat.le_refl _)

end Go.Proofs.Ytndknmchhhljcaa
