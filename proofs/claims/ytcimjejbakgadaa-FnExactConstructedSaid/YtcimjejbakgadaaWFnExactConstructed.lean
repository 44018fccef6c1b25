/- The walk of laws.FnExactConstructed. -/
import Derived.Test.YtcimjejbakgadaaSpec0
namespace Go.Proofs.Ytcimjejbakgadaa
open Go.RowKit

theorem walk_FnExactConstructed (w : World) (t : Int) (hw : (Lit.int .i64 t).wf = true) :
    Calls Try.prog 3 #[.int .i64 t] w fun e w' => e = .returned (.bool true) ∧ Below w.heap.size w w' := by
  have hb : -9223372036854775808 ≤ t ∧ t ≤ 9223372036854775807 := by
    have h1 : IntKind.i64.min = -9223372036854775808 := rfl
    have h2 : IntKind.i64.max = 9223372036854775807 := rfl
    simp only [Lit.wf, Bool.and_eq_true, decide_eq_true_eq] at hw
    omega
  obtain ⟨l0, l1⟩ := hb
  clear hw
  by_cases h0 : 0 ≤ t ∧ t ≤ 255
  · obtain ⟨h0, h1⟩ := h0
    have E := Lib.hid (constructed_eq t h0 h1)
    go_enter Try.func3, Try.ntmps3
    go_wp2_with (first | (go_at_call 30; refine (tagOk_yes t _ h0 h1).mono ?_; rintro e w' ⟨rfl, rfl⟩) | go_in)
    go_ret
    exact ⟨ret_bool (by rw [E.out]; simp), Below.refl _ _⟩
  · go_enter Try.func3, Try.ntmps3
    go_wp2_with (first | (go_at_call 30; refine (tagOk_no t _ (by omega)).mono ?_; rintro e w' ⟨rfl, rfl⟩) | go_in)
    go_ret
    exact ⟨rfl, Below.refl _ _⟩
end Go.Proofs.Ytcimjejbakgadaa
