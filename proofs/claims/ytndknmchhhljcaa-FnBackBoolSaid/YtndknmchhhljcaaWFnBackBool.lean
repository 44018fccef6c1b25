/- The walk of laws.FnBackBool. (Printed by gen_laws3.py.) -/
import Derived.Test.YtndknmchhhljcaaWf
import Derived.Test.YtndknmchhhljcaaReadYes
namespace Go.Proofs.Ytndknmchhhljcaa
open Go.RowKit
set_option linter.unusedVariables false

set_option maxRecDepth 100000 in
set_option maxHeartbeats 800000 in
theorem main_FnBackBool (w : World) (v : Bool) (a : Option Addr) (n c : Nat) (xs : List Int) (hn : xs.length = n) (hb : BIn w w.heap.size a xs) (hx : Byt xs) (hl : n ≤ 1048576) :
    Calls Try.prog 23 #[.bool v, .slice a n c] w fun e w' => e = .returned (.bool true) ∧ Below w.heap.size w w' := by
  have K := Lib.hid (iBool w v)
  have E := Lib.hid (show firstOf (derWrap 1 [bByte v] ++ xs) 1 = some ([bByte v], xs) by
    rw [firstOf_derWrap (t := 1) (by omega) 1 [bByte v] xs (by simp) (Byt.one (by cases v <;> decide) (by cases v <;> decide)) hx, if_pos rfl])
  have HbX := Lib.hid (show Byt (derWrap 1 [bByte v]) from derWrap_byt (by omega) (by omega) (Byt.one (by cases v <;> decide) (by cases v <;> decide)))
  have HXl := Lib.hid (show (derWrap 1 [bByte v]).length ≤ 1000 by
    have := derWrap_len 1 [bByte v]
    simp at this ⊢
    omega)
  generalize derWrap 1 [bByte v] = X at *
  obtain ⟨m, hm⟩ : ∃ m, m = X.length := ⟨_, rfl⟩
  have Hm := Lib.hid hm.symm
  have Hn := Lib.hid hn
  have HB := Lib.hid hb
  have Hx := Lib.hid hx
  clear hn hb hx hm
  go_enter Try.func23, Try.ntmps23
  go_wp2_with fail
  refine (fits_any a n c _ hl).mono ?_
  rintro e w' ⟨rfl, rfl⟩
  go_wp2_with fail
  refine K.out.mono ?_
  rintro e w1 ⟨a1, c1, rfl, p1, p2, p3, p4⟩
  rw [Hm.out] at p1 ⊢
  go_wp2_with fail
  refine (behind_any a1 a m c1 n c X xs w1 Hm.out Hn.out p3 ((HB.out.below p4).lt) (by have := HXl.out; have := Hm.out; omega)).mono ?_
  rintro e w2 ⟨a2, c2, rfl, q1, q2, q3, q4, _⟩
  have p24 := p4.trans (q4.mono p4.size)
  have hmn : (X ++ xs).length = m + n := by rw [List.length_append, Hm.out, Hn.out]
  have hml : m + n ≤ 4194304000 := by have := HXl.out; have := Hm.out; omega
  have R := Lib.hid (iReadBool_yes a2 (m + n) c2 (X ++ xs) v xs w2 hmn q3 (HbX.out.append Hx.out) hml E.out)
  clear hmn hml
  go_wp2_with fail
  refine R.out.mono ?_
  intro e w3 hq
  obtain ⟨a3, c3, rfl, _, _, r3, r4⟩ := hq
  rw [Hn.out]
  have p34 := p24.trans (r4.mono p24.size)
  go_wp2_with fail
  refine (same_any a3 a n c3 n c xs xs w3 w3.heap.size Hn.out Hn.out r3 ((HB.out.below p34).lt) Hx.out Hx.out).mono ?_
  rintro e w4 ⟨rfl, rfl⟩
  go_wp2
  go_ret
  exact ⟨ret_bool (by simp), p34⟩

set_option maxRecDepth 100000 in
set_option maxHeartbeats 800000 in
theorem walk_FnBackBool (w : World) (v : Bool) (a : Option Addr) (n c : Nat) (xs : List Int) (hn : xs.length = n) (hb : BIn w w.heap.size a xs) (hx : Byt xs) (hc : n ≤ c) (hm : c ≤ maxLen) :
    Calls Try.prog 23 #[.bool v, .slice a n c] w fun e w' => e = .returned (.bool true) ∧ Below w.heap.size w w' := by
  by_cases hl : n ≤ 1048576
  · exact main_FnBackBool w v a n c xs hn hb hx hl
  · by_cases hz : n ≤ 2147483647
    · clear hn hb hx
      go_enter Try.func23, Try.ntmps23
      go_wp2_with fail
      refine (fits_no a n c _ (by omega)).mono ?_
      rintro e w' ⟨rfl, rfl⟩
      go_wp2
      go_ret
      exact ⟨rfl, Below.refl _ _⟩
    · clear hn hb hx
      go_enter Try.func23, Try.ntmps23
      go_wp2
      go_ret
      exact ⟨rfl, Below.refl _ _⟩
end Go.Proofs.Ytndknmchhhljcaa
