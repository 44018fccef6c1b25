/- The walk of laws.FnAddTagged. (Printed by gen_laws3.py.) -/
import Derived.Test.YtndknmchhhljcaaWf
namespace Go.Proofs.Ytndknmchhhljcaa
open Go.RowKit
set_option linter.unusedVariables false

set_option maxRecDepth 100000 in
set_option maxHeartbeats 800000 in
theorem walk_FnAddTagged (w : World) (v : Int) (wv : (Lit.int .i64 v).wf = true) :
    Calls Try.prog 17 #[.int .i64 v] w fun e w' => e = .returned (.bool true) ∧ Below w.heap.size w w' := by
  obtain ⟨h0, h1⟩ := i64_wf wv
  have K := Lib.hid (iInt64 w v h0 h1)
  have D := Lib.hid (fun W => iInt64T W v 2 (by omega) (by omega) (by omega) h0 h1)
  have HX := Lib.hid (show Byt (derWrap 2 (intC v)) from derWrap_byt (by omega) (by omega) (bigB_byt _ _))
  clear h0 h1 wv
  generalize derWrap 2 (intC v) = X at *
  obtain ⟨n, hn⟩ : ∃ n, n = X.length := ⟨_, rfl⟩
  have Hn := Lib.hid hn.symm
  clear hn
  go_enter Try.func17, Try.ntmps17
  go_wp2_with fail
  refine K.out.mono ?_
  rintro e w1 ⟨a1, c1, rfl, p1, p2, p3, p4⟩
  rw [Hn.out] at p1 ⊢
  go_wp2_with fail
  refine (D.out w1).mono ?_
  rintro e w2 ⟨a2, c2, rfl, q1, q2, q3, q4⟩
  rw [Hn.out] at q1 ⊢
  have p24 := p4.trans (q4.mono p4.size)
  go_wp2_with fail
  refine (same_any a1 a2 n c1 n c2 X X w2 w2.heap.size Hn.out Hn.out ((p3.below q4).lt) q3 HX.out HX.out).mono ?_
  rintro e w3 ⟨rfl, rfl⟩
  go_wp2
  go_ret
  exact ⟨ret_bool (by simp), p24⟩
end Go.Proofs.Ytndknmchhhljcaa
