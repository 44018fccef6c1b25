/- The walk of laws.FnBackUint48. (Printed by gen_addlaw.py.) -/
import Derived.Test.YtndknmchhhljcaaImpNum
import Derived.Test.YtndknmchhhljcaaRead2
namespace Go.Proofs.Ytndknmchhhljcaa
open Go.RowKit
set_option linter.unusedVariables false

set_option maxRecDepth 100000 in
set_option maxHeartbeats 800000 in
theorem main_FnBackUint48 (w : World) (v : Int) (a : Option Addr) (n c : Nat) (xs : List Int) (hn : xs.length = n) (hb : BIn w w.heap.size a xs) (hx : Byt xs) (hl : n ≤ 1048576) (h0 : 0 ≤ v) (h1 : v ≤ 281474976710655) :
    Calls Try.prog 8 #[.int .i64 v, .slice a n c] w fun e w' => e = .returned (.bool true) ∧ Below w.heap.size w w' := by
  have K := iAddU48_any v w h0 (by omega)

  have Hb := bigB_byt 6 v
  have HL := bigB_len 6 v
  have HN := bigB_num 6 v
  rw [Int.emod_eq_of_lt h0 (by simp only [Int.reducePow]; omega)] at HN
  generalize bigB 6 v = X at *
  obtain ⟨x0, x1, x2, x3, x4, x5, rfl⟩ : ∃ x0 x1 x2 x3 x4 x5, X = [x0, x1, x2, x3, x4, x5] := by
    match X, HL with
    | [x0, x1, x2, x3, x4, x5], _ => exact ⟨x0, x1, x2, x3, x4, x5, rfl⟩
  have K' := Lib.hid K
  have HN' := Lib.hid HN
  have Hb' := Lib.hid Hb
  have HB := Lib.hid hb
  have Hx := Lib.hid hx
  have Hn := Lib.hid hn
  clear K HL HN Hb hb hx hn
  go_enter Try.func8, Try.ntmps8
  go_wp2_with fail
  refine (fits_any a n c _ hl).mono ?_
  rintro e w' ⟨rfl, rfl⟩
  go_wp2_with fail
  refine K'.out.mono ?_
  rintro e w1 ⟨a1, c1, rfl, p1, p2, p3, p4⟩
  rw [show [x0, x1, x2, x3, x4, x5].length = 6 from rfl] at p1 ⊢
  go_wp2_with fail
  refine (behind_any a1 a 6 c1 n c [x0, x1, x2, x3, x4, x5] xs w1 rfl Hn.out p3 ((HB.out.below p4).lt) (by omega)).mono ?_
  rintro e w2 ⟨a2, c2, rfl, q1, q2, q3, q4, _⟩
  have p24 := p4.trans (q4.mono p4.size)
  go_wp2_with fail
  refine (iReadU48_yes a2 (6 + n) c2 x0 x1 x2 x3 x4 x5 xs w2 (by have := Hn.out; omega) q3 (by omega) (Hb'.out.append Hx.out)).mono ?_
  rintro e w3 ⟨a3, c3, rfl, r1, r2, r3, r4⟩
  rw [HN'.out, show 6 + n - 6 = n by omega]
  have p34 := p24.trans (r4.mono p24.size)
  go_wp2_with fail
  refine (same_any a3 a n c3 n c xs xs w3 w3.heap.size Hn.out Hn.out r3 ((HB.out.below p34).lt) Hx.out Hx.out).mono ?_
  rintro e w4 ⟨rfl, rfl⟩
  go_wp2
  go_ret
  exact ⟨ret_bool (by simp), p34⟩

set_option maxHeartbeats 800000 in
theorem walk_FnBackUint48 (w : World) (v : Int) (wv : (Lit.int .i64 v).wf = true) (a : Option Addr) (n c : Nat) (xs : List Int) (hn : xs.length = n) (hb : BIn w w.heap.size a xs) (hx : Byt xs) (hc : n ≤ c) (hm : c ≤ maxLen) :
    Calls Try.prog 8 #[.int .i64 v, .slice a n c] w fun e w' => e = .returned (.bool true) ∧ Below w.heap.size w w' := by
  clear wv
  by_cases hl : n ≤ 1048576
  · by_cases h0 : 0 ≤ v
    · by_cases h1 : v ≤ 281474976710655
      · exact main_FnBackUint48 w v a n c xs hn hb hx hl h0 h1
      · go_enter Try.func8, Try.ntmps8
        go_wp2_with fail
        refine (fits_any a n c _ hl).mono ?_
        rintro e w' ⟨rfl, rfl⟩
        go_wp2
        go_ret
        exact ⟨rfl, Below.refl _ _⟩
    · go_enter Try.func8, Try.ntmps8
      go_wp2_with fail
      refine (fits_any a n c _ hl).mono ?_
      rintro e w' ⟨rfl, rfl⟩
      go_wp2
      go_ret
      exact ⟨rfl, Below.refl _ _⟩
  · by_cases hz : n ≤ 2147483647
    · go_enter Try.func8, Try.ntmps8
      go_wp2_with fail
      refine (fits_no a n c _ (by omega)).mono ?_
      rintro e w' ⟨rfl, rfl⟩
      go_wp2
      go_ret
      exact ⟨rfl, Below.refl _ _⟩
    · go_enter Try.func8, Try.ntmps8
      go_wp2
      go_ret
      exact ⟨rfl, Below.refl _ _⟩
end Go.Proofs.Ytndknmchhhljcaa
