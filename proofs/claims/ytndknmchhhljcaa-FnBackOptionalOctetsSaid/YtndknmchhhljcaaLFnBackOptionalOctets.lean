/- Proved: laws.FnBackOptionalOctets returns true for every input, and each argument reads afterwards as it read before. Conditions: none. -/
import Derived.Test.YtndknmchhhljcaaRows
import Derived.Test.YtndknmchhhljcaaFrame
import Derived.Test.YtndknmchhhljcaaHead
import Derived.Test.YtndknmchhhljcaaWFnBackOptionalOctets
namespace Go.Proofs.Ytndknmchhhljcaa
open Go.ChangeShapes Go.WideShapes Go.ChangeAt Go.RowKit
set_option linter.unusedVariables false

set_option maxRecDepth 100000 in
theorem lifted_FnBackOptionalOctets (os : Os) (started : os.Started) (H : Type) (enc : TypeId × Value → H) :
    ReturnsInHanded {} Try.checked os 26 .any (Rows.fnBackOptionalOctetsSpec.pre6 enc Try.prog Try.f26 Rows.fnBackOptionalOctetsRow.domain false) (Rows.fnBackOptionalOctetsSpec.post enc Try.prog Try.f26 false true false false) := by
  refine returnsInHanded_of_change (C := Try.checked) own started (by kernel_rfl) Try.func26
    (ChangeSpec.witness6 (enc := enc) (C := Try.checked) false ⟨#[], #[.int .i64 0, .int .i64 0, .slice none 0 0, .slice none 0 0], []⟩ 8 (by kernel_rfl) (by kernel_rfl) (by kernel_rfl) (by kernel_rfl)) ?_
  intro W base args ds gs before hval0 hW hcnd _
  have hval : ∀ (j : Nat) t v, Try.f26.params[j]? = some t → args[j]? = some v → Value.okWide Try.prog W .any base t v := hval0
  have hW' := hW
  obtain ⟨p, q, hA0, hV, rfl, hfz, hnd⟩ := hW
  have hA : DataW.TrodAll enc Try.prog W 0 (fun _ => true) true Try.f26.params.toList args.toList ds p := hA0
  rw [Try.params26] at hA hval
  obtain ⟨v0, vs0, d0, ds0, p0, q0, hargs, rfl, rfl, h0, r0⟩ := trodAll_cons hA
  obtain ⟨v1, vs1, d1, ds1, p1, q1, rfl, rfl, rfl, h1, r1⟩ := trodAll_cons r0
  obtain ⟨v2, vs2, d2, ds2, p2, q2, rfl, rfl, rfl, h2, r2⟩ := trodAll_cons r1
  obtain ⟨v3, vs3, d3, ds3, p3, q3, rfl, rfl, rfl, h3, r3⟩ := trodAll_cons r2
  obtain ⟨rfl, rfl, rfl⟩ := trodAll_nil r3
  obtain rfl : args = #[v0, v1, v2, v3] := by cases args; simp_all
  obtain ⟨rfl, rfl⟩ := trodVars_none hV
  obtain ⟨a0, rfl, rfl, rfl, w0⟩ := open_int Try.underlying3 (hval 0 3 v0 rfl rfl) h0
  obtain ⟨a1, rfl, rfl, rfl, w1⟩ := open_int Try.underlying3 (hval 1 3 v1 rfl rfl) h1
  obtain ⟨a2, len2, cap2, rfl⟩ := okWide_slice Try.underlying22 (hval 2 22 v2 rfl rfl)
  have k2 := h2
  have lt2 : ∀ x ∈ p2, x.block < W.heap.size := by obtain ⟨m, hm⟩ := k2; exact DataW.trod_lt m _ _ _ hm
  obtain ⟨z2, wn2, wb2, wy2, wc2, wm2⟩ := bytes_arg h2
  obtain ⟨a3, len3, cap3, rfl⟩ := okWide_slice Try.underlying22 (hval 3 22 v3 rfl rfl)
  have k3 := h3
  have lt3 : ∀ x ∈ p3, x.block < W.heap.size := by obtain ⟨m, hm⟩ := k3; exact DataW.trod_lt m _ _ _ hm
  obtain ⟨z3, wn3, wb3, wy3, wc3, wm3⟩ := bytes_arg h3
  clear hA0 hval0
  refine (walk_FnBackOptionalOctets W a0 w0 a1 w1 a2 len2 cap2 z2 wn2 wb2 wy2 wc2 wm2 a3 len3 cap3 z3 wn3 wb3 wy3 wc3 wm3).mono fun e W' ⟨he, bel⟩ => ?_
  subst he
  exact ⟨_, rfl, _, _, _, [], _, [], hW', trodAll_mk1 (shut_bool Try.underlying4 _), (trodAll_cons_mk (shut_int Try.underlying3 w0) (trodAll_cons_mk (shut_int Try.underlying3 w1) (trodAll_cons_mk (Below.trod laidOut (by kernel_rfl) (of_decide_eq_true (by kernel_rfl)) k2 bel lt2) (trodAll_cons_mk (Below.trod laidOut (by kernel_rfl) (of_decide_eq_true (by kernel_rfl)) k3 bel lt3) trodAll_mk0)))), rfl, bel.frame _, fun h => by cases h⟩

set_option maxRecDepth 100000 in
theorem closed_FnBackOptionalOctets : joinedFacts Try.pinned.checked.prog 26 Try.f26 Rows.fnBackOptionalOctetsSpec Rows.fnBackOptionalOctetsRow = true := by
  unfold joinedFacts
  exact (and_i (and_i (and_i (and_i (and_i (and_i (and_i (and_i (and_i (and_i (and_i (and_i (and_i (and_i (and_i (and_i (and_i (and_i (and_i (and_i (and_i (and_i (and_i (and_i (and_i (and_i (and_i (and_i (and_i (and_i (and_i (by as_aux_lemma => kernel_rfl) (by as_aux_lemma => kernel_rfl)) (by as_aux_lemma => kernel_rfl)) (by as_aux_lemma => kernel_rfl)) (by as_aux_lemma => kernel_rfl)) (by as_aux_lemma => kernel_rfl)) (by as_aux_lemma => kernel_rfl)) (by as_aux_lemma => kernel_rfl)) (by as_aux_lemma => kernel_rfl)) (by as_aux_lemma => kernel_rfl)) (by as_aux_lemma => kernel_rfl)) (by as_aux_lemma => kernel_rfl)) (by as_aux_lemma => kernel_rfl)) (by as_aux_lemma => kernel_rfl)) (by as_aux_lemma => kernel_rfl)) (by as_aux_lemma => kernel_rfl)) (by as_aux_lemma => kernel_rfl)) (by as_aux_lemma => kernel_rfl)) (by as_aux_lemma => kernel_rfl)) (by as_aux_lemma => kernel_rfl)) (by as_aux_lemma => kernel_rfl)) (by as_aux_lemma => kernel_rfl)) (by as_aux_lemma => kernel_rfl)) (by as_aux_lemma => kernel_rfl)) (by as_aux_lemma => kernel_rfl)) mayEnter_yes) ((congrArg (Rows.fnBackOptionalOctetsRow.lifted == ·) liftsFinal_no).trans (by kernel_rfl))) ((congrArg (· == some Rows.fnBackOptionalOctetsRow.make) make_cut).trans (by kernel_rfl))) (by as_aux_lemma => kernel_rfl)) (by as_aux_lemma => kernel_rfl)) (by as_aux_lemma => kernel_rfl)) (by as_aux_lemma => kernel_rfl))

theorem over_FnBackOptionalOctets : Rows.fnBackOptionalOctetsRow.holds Try.pinned (OpenSpec.ofChange Rows.fnBackOptionalOctetsSpec) :=
  OpenClaim.holds_of_wide 26 Try.f26 rfl rfl rfl rfl rfl rfl rfl ⟨rfl, rfl, rfl, rfl, rfl⟩ rfl rfl rfl rfl rfl (by as_aux_lemma => kernel_rfl) Try.func26 closed_FnBackOptionalOctets
    (of_decide_eq_true (by kernel_rfl)) (by unfold Func.isWrapper; first | (rw [if_pos (by decide +kernel)]; kernel_rfl) | (rw [if_neg (by decide +kernel)]; exact ⟨rfl, rfl⟩))
    (fun os started H enc _ => lifted_FnBackOptionalOctets os started H enc)

/-- The statement. -/
theorem FnBackOptionalOctets_holds : Rows.FnBackOptionalOctetsSaid := over_FnBackOptionalOctets
#print axioms FnBackOptionalOctets_holds
end Go.Proofs.Ytndknmchhhljcaa
