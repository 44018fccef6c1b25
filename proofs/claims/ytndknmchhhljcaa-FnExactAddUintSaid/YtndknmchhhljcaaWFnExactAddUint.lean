/- The walk of laws.FnExactAddUint. (Printed by gen_laws4.py.) -/
import Derived.Test.YtndknmchhhljcaaSpecUintC
namespace Go.Proofs.Ytndknmchhhljcaa
open Go.RowKit
set_option linter.unusedVariables false

set_option maxRecDepth 100000 in
set_option maxHeartbeats 1600000 in
theorem walk_FnExactAddUint (w : World) (v : Int) (wv : (Lit.int .u64 v).wf = true) :
    Calls Try.prog 15 #[.int .u64 v] w fun e w' => e = .returned (.bool true) ∧ Below w.heap.size w w' := by
  obtain ⟨h0, h1⟩ := u64_wf wv
  have K := Lib.hid (iUint w v h0 h1)
  have D := Lib.hid (fun W => uintContents_any v W h0 h1)
  have hlY := (uintC_ok h0 h1).2.1
  have hbY : Byt (uintC v) := bigB_byt _ _
  clear h0 h1
  generalize uintC v = Y at *
  have W := Lib.hid (fun W a c (h : BIn W W.heap.size a Y) => wrapped_any 2 a Y.length c Y W (by omega) (by omega) (by omega) rfl h)
  have HbX := Lib.hid (show Byt (derWrap 2 Y) from derWrap_byt (by omega) (by omega) hbY)
  clear hlY hbY wv
  generalize derWrap 2 Y = X at *
  obtain ⟨m, hm⟩ : ∃ m, m = X.length := ⟨_, rfl⟩
  have Hm := Lib.hid hm.symm
  obtain ⟨l, hl⟩ : ∃ l, l = Y.length := ⟨_, rfl⟩
  have Hl := Lib.hid hl.symm
  rw [← hl] at W
  clear hm hl
  go_enter Try.func15, Try.ntmps15
  go_wp2_with fail
  refine K.out.mono ?_
  rintro e w1 ⟨a1, c1, rfl, p1, p2, p3, p4⟩
  rw [Hm.out] at p1 ⊢
  go_wp2_with fail
  refine (D.out w1).mono ?_
  rintro e w2 ⟨a2, c2, rfl, q1, q2, q3, q4, _⟩
  rw [Hl.out] at q1 ⊢
  have p24 := p4.trans (q4.mono p4.size)
  go_wp2_with fail
  refine (W.out w2 a2 c2 q3).mono ?_
  rintro e w3 ⟨a3, c3, rfl, r1, r2, r3, r4, _⟩
  rw [Hm.out] at r1 ⊢
  have p34 := p24.trans (r4.mono p24.size)
  go_wp2_with fail
  refine (same_any a1 a3 m c1 m c3 X X w3 w3.heap.size Hm.out Hm.out ((p3.below (q4.trans (r4.mono q4.size))).lt) r3 HbX.out HbX.out).mono ?_
  rintro e w4 ⟨rfl, rfl⟩
  go_wp2
  go_ret
  exact ⟨ret_bool (by simp), p34⟩
end Go.Proofs.Ytndknmchhhljcaa
