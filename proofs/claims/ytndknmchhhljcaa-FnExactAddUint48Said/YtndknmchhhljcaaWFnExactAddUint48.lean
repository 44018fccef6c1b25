/- The walk of laws.FnExactAddUint48. (Printed by gen_addlaw.py.) -/
import Derived.Test.YtndknmchhhljcaaImpNum
namespace Go.Proofs.Ytndknmchhhljcaa
open Go.RowKit
set_option linter.unusedVariables false

set_option maxRecDepth 100000 in
set_option maxHeartbeats 800000 in
theorem main_FnExactAddUint48 (w : World) (v : Int) (h0 : 0 ≤ v) (h1 : v ≤ 281474976710655) :
    Calls Try.prog 5 #[.int .i64 v] w fun e w' => e = .returned (.bool true) ∧ Below w.heap.size w w' := by
  have K := iAddU48_any v w h0 h1
  have K' := Lib.hid K
  have D := fun W => Lib.hid (big_any v 6 W h0 (by omega) (by omega))
  have D' := Lib.hid D
  have Hb := Lib.hid (bigB_byt 6 v)
  have HL := Lib.hid (bigB_len 6 v)
  clear K D
  generalize bigB 6 v = X at *
  go_enter Try.func5, Try.ntmps5
  go_wp2_with fail
  refine K'.out.mono ?_
  rintro e w1 ⟨a1, c1, rfl, p1, p2, p3, p4⟩
  rw [HL.out] at p1 ⊢
  go_wp2_with fail
  refine (D'.out w1).out.mono ?_
  rintro e w2 ⟨a2, c2, rfl, q1, q2, q3, q4, _⟩
  rw [HL.out] at q1 ⊢
  have p24 := p4.trans (q4.mono p4.size)
  go_wp2_with fail
  refine (same_any a1 a2 6 c1 6 c2 X X w2 w2.heap.size HL.out HL.out ((p3.below q4).lt) q3 Hb.out Hb.out).mono ?_
  rintro e w3 ⟨rfl, rfl⟩
  go_wp2
  go_ret
  exact ⟨ret_bool (by simp), p24⟩

theorem walk_FnExactAddUint48 (w : World) (v : Int) (wv : (Lit.int .i64 v).wf = true) :
    Calls Try.prog 5 #[.int .i64 v] w fun e w' => e = .returned (.bool true) ∧ Below w.heap.size w w' := by
  clear wv
  by_cases h0 : 0 ≤ v
  · by_cases h1 : v ≤ 281474976710655
    · exact main_FnExactAddUint48 w v h0 h1
    · go_enter Try.func5, Try.ntmps5
      go_wp2
      go_ret
      exact ⟨rfl, Below.refl _ _⟩
  · go_enter Try.func5, Try.ntmps5
    go_wp2
    go_ret
    exact ⟨rfl, Below.refl _ _⟩
end Go.Proofs.Ytndknmchhhljcaa
