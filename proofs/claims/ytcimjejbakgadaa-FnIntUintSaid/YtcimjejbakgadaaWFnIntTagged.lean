/- The walk of laws.FnIntTagged. -/
import Derived.Test.YtcimjejbakgadaaLawInt
import Derived.Test.YtcimjejbakgadaaSpec0
namespace Go.Proofs.Ytcimjejbakgadaa
open Go.RowKit
set_option linter.unusedVariables false

theorem intRead_byt {xs rest : List Int} {v t : Int} (h : intRead xs t = some (v, rest)) (hx : Byt xs) : Byt rest ∧ rest.length ≤ xs.length := by
  unfold intRead at h
  cases hf : firstOf xs t with
  | none => rw [hf] at h; cases h
  | some p =>
    obtain ⟨o, r⟩ := p
    rw [hf] at h
    simp only at h
    split at h
    · injection h with h; injection h with _ h; subst h
      obtain ⟨b, k, _, ho, hr, h3, h4, _⟩ := firstOf_inv hf
      subst hr
      exact ⟨hx.drop _, by omega⟩
    · cases h

set_option maxRecDepth 100000 in
set_option maxHeartbeats 1600000 in
theorem main_FnIntTagged (w : World) (a : Option Addr) (n c : Nat) (xs : List Int) (hn : xs.length = n) (hb : BIn w w.heap.size a xs) (hx : Byt xs) (hc : n ≤ c) (hm : c ≤ maxLen) (h0 : n ≤ 1048576) :
    Calls Try.prog 28 #[.slice a n c] w fun e w' => e = .returned (.bool true) ∧ Below w.heap.size w w' := by
  have K := Lib.hid (iReadInt64_any a n c xs w hn hb hx (by omega))
  have K2 := Lib.hid (fun W (hB : Below w.heap.size w W) => iReadIntT_any a n c xs 2 W hn (hb.below hB).lt hx (by omega) (by omega) (by omega))
  have D := Lib.hid (fun W (hB : Below w.heap.size w W) => isInt_any a n c xs 2 w.heap.size W hn hc hm (hb.below hB) hB.size hx (by omega))
  have Hx := Lib.hid hx
  clear hn hb hx
  cases hr : intRead xs 2 with
  | none =>
    rw [hr] at K K2 D
    clear hr
    go_enter Try.func28, Try.ntmps28
    go_wp2_with fail
    refine (fits_any a n c _ h0).mono ?_
    rintro e w' ⟨rfl, rfl⟩
    go_wp2_with fail
    refine K.out.mono ?_
    rintro e w1 ⟨v1, v2, rfl, p1⟩
    go_wp2_with fail
    refine (K2.out w1 p1).mono ?_
    rintro e w2 ⟨v3, v4, rfl, p2⟩
    have p12 := p1.trans (p2.mono p1.size)
    go_wp2_with fail
    refine (D.out w2 p12).mono ?_
    rintro e w3 ⟨rfl, p3⟩
    have p13 := p12.trans (p3.mono p12.size)
    rw [show (none : Option (Int × List Int)).isSome = false from rfl]
    go_wp2
    go_ret
    exact ⟨rfl, p13⟩
  | some v =>
    obtain ⟨z, rest⟩ := v
    have X2 := Lib.hid (intRead_byt hr Hx.out).1
    rw [hr] at K K2 D
    clear hr
    go_enter Try.func28, Try.ntmps28
    go_wp2_with fail
    refine (fits_any a n c _ h0).mono ?_
    rintro e w' ⟨rfl, rfl⟩
    go_wp2_with fail
    refine K.out.mono ?_
    rintro e w1 ⟨a1, c1, rfl, _, _, q3, p1⟩
    go_wp2_with fail
    refine (K2.out w1 p1).mono ?_
    rintro e w2 ⟨a2, c2, rfl, _, _, q4, p2⟩
    have p12 := p1.trans (p2.mono p1.size)
    go_wp2_with fail
    refine (D.out w2 p12).mono ?_
    rintro e w3 ⟨rfl, p3⟩
    have p13 := p12.trans (p3.mono p12.size)
    rw [show (some (z, rest) : Option (Int × List Int)).isSome = true from rfl]
    go_wp2_with fail
    refine (same_any a1 a2 rest.length c1 rest.length c2 rest rest w3 w3.heap.size rfl rfl (((q3.below p2).lt.below p3).lt) ((q4.below p3).lt) X2.out X2.out).mono ?_
    rintro e w5 ⟨rfl, rfl⟩
    go_wp2
    go_ret
    exact ⟨ret_bool (by simp), p13⟩

-- PRE (printed by gen_pre.py of this folder)
set_option maxRecDepth 100000 in
set_option maxHeartbeats 800000 in
theorem walk_FnIntTagged (w : World) (a : Option Addr) (n c : Nat) (xs : List Int) (hn : xs.length = n) (hb : BIn w w.heap.size a xs) (hx : Byt xs) (hc : n ≤ c) (hm : c ≤ maxLen) :
    Calls Try.prog 28 #[.slice a n c] w fun e w' => e = .returned (.bool true) ∧ Below w.heap.size w w' := by
  by_cases h0 : n ≤ 1048576
  · exact main_FnIntTagged w a n c xs hn hb hx hc hm h0
  · by_cases hz : n ≤ 2147483647
    · go_enter Try.func28, Try.ntmps28
      go_wp2_with fail
      refine (fits_no a n c _ (by omega)).mono ?_
      rintro e w' ⟨rfl, rfl⟩
      go_wp2
      go_ret
      exact ⟨rfl, Below.refl _ _⟩
    · go_enter Try.func28, Try.ntmps28
      go_wp2
      go_ret
      exact ⟨rfl, Below.refl _ _⟩
end Go.Proofs.Ytcimjejbakgadaa
