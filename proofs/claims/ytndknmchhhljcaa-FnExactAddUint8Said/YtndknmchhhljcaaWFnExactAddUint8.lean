/- The walk of laws.FnExactAddUint8. (Printed by gen_addlaw.py.) -/
import Derived.Test.YtndknmchhhljcaaImpNum
namespace Go.Proofs.Ytndknmchhhljcaa
open Go.RowKit
set_option linter.unusedVariables false

set_option maxRecDepth 100000 in
set_option maxHeartbeats 800000 in
theorem main_FnExactAddUint8 (w : World) (v : Int) (h0 : 0 ≤ v) (h1 : v ≤ 255) :
    Calls Try.prog 6 #[.int .i64 v] w fun e w' => e = .returned (.bool true) ∧ Below w.heap.size w w' := by
  have K := iAddU8_any v w h0 h1
  rw [show [v] = bigB 1 v by rw [bigB_one, Int.emod_eq_of_lt (by omega) (by omega)]] at K
  have K' := Lib.hid K
  have D := fun W => Lib.hid (big_any v 1 W h0 (by omega) (by omega))
  have D' := Lib.hid D
  have Hb := Lib.hid (bigB_byt 1 v)
  have HL := Lib.hid (bigB_len 1 v)
  clear K D
  generalize bigB 1 v = X at *
  go_enter Try.func6, Try.ntmps6
  go_wp2_with fail
  refine K'.out.mono ?_
  rintro e w1 ⟨a1, c1, rfl, p1, p2, p3, p4⟩
  rw [HL.out] at p1 ⊢
  go_wp2_with fail
  refine (D'.out w1).out.mono ?_
  rintro e w2 ⟨a2, c2, rfl, q1, q2, q3, q4, _⟩
  rw [HL.out] at q1 ⊢
  have p24 := p4.trans (q4.mono p4.size)
  go_wp2_with fail
  refine (same_any a1 a2 1 c1 1 c2 X X w2 w2.heap.size HL.out HL.out ((p3.below q4).lt) q3 Hb.out Hb.out).mono ?_
  rintro e w3 ⟨rfl, rfl⟩
  go_wp2
  go_ret
  exact ⟨ret_bool (by simp), p24⟩

theorem walk_FnExactAddUint8 (w : World) (v : Int) (wv : (Lit.int .i64 v).wf = true) :
    Calls Try.prog 6 #[.int .i64 v] w fun e w' => e = .returned (.bool true) ∧ Below w.heap.size w w' := by
  clear wv
  by_cases h0 : 0 ≤ v
  · by_cases h1 : v ≤ 255
    · exact main_FnExactAddUint8 w v h0 h1
    · go_enter Try.func6, Try.ntmps6
      go_wp2
      go_ret
      exact ⟨rfl, Below.refl _ _⟩
  · go_enter Try.func6, Try.ntmps6
    go_wp2
    go_ret
    exact ⟨rfl, Below.refl _ _⟩
end Go.Proofs.Ytndknmchhhljcaa
