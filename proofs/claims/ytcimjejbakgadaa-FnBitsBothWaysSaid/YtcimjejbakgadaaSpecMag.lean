/- The contract of the reference's MagnitudeOf. -/
import Derived.Test.YtcimjejbakgadaaSpecInt
import Derived.Test.YtcimjejbakgadaaBytR
namespace Go.Proofs.Ytcimjejbakgadaa
open Go.RowKit
set_option linter.unusedVariables false

def magVal (xs : List Int) : Option (List Int) := if isInteger xs = true ∧ xs.getD 0 0 < 128 then some (dropz xs) else none

def MgPost (B : Nat) (r : Option (List Int)) (w : World) (e : Ending) (w' : World) : Prop :=
  Below w.heap.size w w' ∧
  match r with
  | some out => ∃ a1 c1, e = .returned (.tuple #[.slice a1 out.length c1, .bool true]) ∧ out.length ≤ c1 ∧ c1 ≤ maxLen ∧ BIn w' B a1 out
  | none => e = .returned (.tuple #[.slice none 0 0, .bool false])

theorem mg_no {B : Nat} {r : Option (List Int)} {w w' : World} (h : r = none) (hb : Below w.heap.size w w') : MgPost B r w (.returned (.tuple #[.slice none 0 0, .bool false])) w' := by
  subst h; exact ⟨hb, rfl⟩
theorem mg_yes {B : Nat} {r : Option (List Int)} {w w' : World} {out : List Int} {a1 : Option Addr} {n1 c1 : Nat} (h : r = some out) (hb : Below w.heap.size w w') (hn : out.length = n1) (hc : n1 ≤ c1) (hm : c1 ≤ maxLen) (hi : BIn w' B a1 out) : MgPost B r w (.returned (.tuple #[.slice a1 n1 c1, .bool true])) w' := by
  subst h; subst hn; exact ⟨hb, a1, c1, rfl, hc, hm, hi⟩

set_option maxRecDepth 100000 in
set_option maxHeartbeats 1600000 in
theorem magnitudeOf_any (a : Option Addr) (n c : Nat) (xs : List Int) (B : Nat) (w : World) (hn : xs.length = n) (hc : n ≤ c) (hm : c ≤ maxLen) (hb : BIn w B a xs) (hx : Byt xs) :
    Calls Try.prog 61 #[.slice a n c] w (MgPost B (magVal xs) w) := by
  have I := Lib.hid (integer_any a n c xs B w hn hb hx)
  cases hi : isInteger xs with
  | false =>
    have V := Lib.hid (show magVal xs = none by unfold magVal; rw [if_neg (by simp [hi])])
    rw [hi] at I
    clear hn hb hx hi
    go_enter Try.func61, Try.ntmps61
    go_wp2_with fail
    refine I.out.mono ?_
    rintro e w1 ⟨rfl, rfl⟩
    go_wp2_with fail
    go_ret2
    exact mg_no V.out (Below.refl _ _)
  | true =>
    have h0 : 0 < n := by cases xs with | nil => simp [isInteger] at hi | cons => simp at hn; omega
    obtain ⟨b, o, rfl, hbB, hcc⟩ := hb (by omega)
    have e0 : w.cell? ⟨b, o, none⟩ = some (.int .u8 (xs.getD 0 0)) := hcc 0 (by omega)
    have V := Lib.hid (show magVal xs = if xs.getD 0 0 < 128 then some (dropz xs) else none by unfold magVal; simp [hi])
    have Hb := Lib.hid hb
    have Hn := Lib.hid hn
    have Hi := Lib.hid hi
    have i0 : (0 : Int) < (n : Int) := by omega
    rw [hi] at I
    have Z := Lib.hid (@dropz_step xs)
    have Z1 := Lib.hid (@dropz_one xs)
    have Z2 := Lib.hid (@dropz_done xs)
    have sl := sl_from (some ⟨b, o, none⟩) n c 1 1 rfl (by omega)
    have Hint := Lib.hid (show 1 < n → xs.getD 0 0 = 0 → (xs.drop 1).getD 0 0 ≠ 0 from by
      intro h1 h2
      match xs, hn, h2, hi with
      | [], hn, _, _ => simp at hn; omega
      | [x], hn, _, _ => simp at hn; omega
      | x :: y :: r, hn, h2, hi =>
        have : x = 0 := by simpa using h2
        subst this
        simp [isInteger] at hi
        simp
        omega)
    by_cases hx0 : 128 ≤ xs.getD 0 0
    · have V2 := Lib.hid (show magVal xs = none by rw [V.out, if_neg (by omega)])
      generalize xs.getD 0 0 = x at *
      clear hn hb hx hi hcc V Z Z1 Z2 Hint
      go_enter Try.func61, Try.ntmps61
      go_wp2_with fail
      refine I.out.mono ?_
      rintro e w1 ⟨rfl, rfl⟩
      go_wp2_with fail
      go_ret2
      exact mg_no V2.out (Below.refl _ _)
    · have V2 := Lib.hid (show magVal xs = some (dropz xs) by rw [V.out, if_pos (by omega)])
      by_cases hz : xs.getD 0 0 = 0
      · rw [hz] at e0
        by_cases h1 : 1 < n
        · have V3 := Lib.hid (show magVal xs = some (xs.drop 1) by rw [V2.out, ← Z.out (by omega) hz, dropz_done (Hint.out h1 hz)])
          have i1 : (1 : Int) < n := by omega
          clear hn hb hx hi hcc V Z Z1 Z2 Hint hz hx0
          go_enter Try.func61, Try.ntmps61
          go_wp2_with fail
          refine I.out.mono ?_
          rintro e w1 ⟨rfl, rfl⟩
          go_wp2_with fail
          go_ret2
          exact mg_yes V3.out (Below.refl _ _) (by rw [List.length_drop, Hn.out]) (by omega) (by omega) (Hb.out.cut (by rw [Hn.out]; exact hc))
        · have V3 := Lib.hid (show magVal xs = some xs by rw [V2.out, Z1.out (by omega)])
          have i1 : ¬ (1 : Int) < n := by omega
          clear hn hb hx hi hcc V Z Z1 Z2 Hint hz hx0
          go_enter Try.func61, Try.ntmps61
          go_wp2_with fail
          refine I.out.mono ?_
          rintro e w1 ⟨rfl, rfl⟩
          go_wp2_with fail
          go_ret2
          exact mg_yes V3.out (Below.refl _ _) Hn.out hc hm Hb.out
      · have V3 := Lib.hid (show magVal xs = some xs by rw [V2.out, Z2.out hz])
        have t1 : (xs.getD 0 0 == 0) = false := by simpa using hz
        generalize xs.getD 0 0 = x at *
        clear hn hb hx hi hcc V Z Z1 Z2 Hint hz
        go_enter Try.func61, Try.ntmps61
        go_wp2_with fail
        refine I.out.mono ?_
        rintro e w1 ⟨rfl, rfl⟩
        go_wp2_with fail
        go_ret2
        exact mg_yes V3.out (Below.refl _ _) Hn.out hc hm Hb.out
end Go.Proofs.Ytcimjejbakgadaa
