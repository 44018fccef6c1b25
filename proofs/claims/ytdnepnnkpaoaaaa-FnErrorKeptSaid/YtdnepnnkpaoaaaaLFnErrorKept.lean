/- Proved: laws.FnErrorKept returns true for every input, and each argument reads afterwards as it read before. Conditions: none. -/
import Derived.Test.YtdnepnnkpaoaaaaRows
import Derived.Test.YtdnepnnkpaoaaaaMF
import Derived.Test.YtdnepnnkpaoaaaaHead
import Derived.Test.YtdnepnnkpaoaaaaFrameT
import Derived.Test.YtdnepnnkpaoaaaaWFnErrorKept
namespace Go.Proofs.Ytdnepnnkpaoaaaa
open Go.ChangeShapes Go.WideShapes Go.ChangeAt Go.RowKit
set_option linter.unusedVariables false

set_option maxRecDepth 100000 in
theorem lifted_FnErrorKept (os : Os) (started : os.Started) (H : Type) (enc : TypeId × Value → H) :
    ReturnsInHanded {} Try.checked os 7 .any (Rows.fnErrorKeptSpec.pre6 enc Try.prog Try.f7 Rows.fnErrorKeptRow.domain false) (Rows.fnErrorKeptSpec.post enc Try.prog Try.f7 false true false false) := by
  refine returnsInHanded_of_change_sized (C := Try.checked) own started (by kernel_rfl) Try.func7
    (ChangeSpec.witness6 (enc := enc) (C := Try.checked) false ⟨#[], #[.slice none 0 0, .slice none 0 0], []⟩ 8 (by kernel_rfl) (by kernel_rfl) (by kernel_rfl) (by kernel_rfl)) ?_
  intro W base args ds gs before hval0 hW hcnd hsz0 _
  have hval : ∀ (j : Nat) t v, Try.f7.params[j]? = some t → args[j]? = some v → Value.okWide Try.prog W .any base t v := hval0
  have hW' := hW
  obtain ⟨p, q, hA0, hV, rfl, hfz, hnd⟩ := hW
  have hA : DataW.TrodAll enc Try.prog W 0 (fun _ => true) true Try.f7.params.toList args.toList ds p := hA0
  rw [Try.params7] at hA hval
  have hsz : (DataW.weightsEach Try.prog (Try.f7.params.toList ++ Rows.fnErrorKeptSpec.plain.varTypes Try.prog) (ds ++ gs)).all (· ≤ reachBytes) = true := hsz0
  rw [Try.params7] at hsz
  obtain ⟨v0, vs0, d0, ds0, p0, q0, hargs, rfl, rfl, h0, r0⟩ := trodAll_cons hA
  obtain ⟨v1, vs1, d1, ds1, p1, q1, rfl, rfl, rfl, h1, r1⟩ := trodAll_cons r0
  obtain ⟨rfl, rfl, rfl⟩ := trodAll_nil r1
  obtain rfl : args = #[v0, v1] := by cases args; simp_all
  obtain ⟨rfl, rfl⟩ := trodVars_none hV
  obtain ⟨a0, len0, cap0, rfl⟩ := okWide_slice Try.underlying23 (hval 0 23 v0 rfl rfl)
  have k0 := h0
  have lt0 : ∀ x ∈ p0, x.block < W.heap.size := by obtain ⟨m, hm⟩ := k0; exact DataW.trod_lt m _ _ _ hm
  obtain ⟨z0, wn0, wb0, wd0, wc0, wm0⟩ := items_arg h0 (fun z hz => by simpa using List.all_eq_true.1 hsz z (DataW.weights_mem_each (j := 0) rfl rfl z hz))
  obtain ⟨a1, len1, cap1, rfl⟩ := okWide_slice Try.underlying23 (hval 1 23 v1 rfl rfl)
  have k1 := h1
  have lt1 : ∀ x ∈ p1, x.block < W.heap.size := by obtain ⟨m, hm⟩ := k1; exact DataW.trod_lt m _ _ _ hm
  obtain ⟨z1, wn1, wb1, wd1, wc1, wm1⟩ := items_arg h1 (fun z hz => by simpa using List.all_eq_true.1 hsz z (DataW.weights_mem_each (j := 1) rfl rfl z hz))
  clear hA0 hval0
  refine (walk_FnErrorKept W a0 len0 cap0 z0 wn0 wb0 wd0 wc0 wm0 a1 len1 cap1 z1 wn1 wb1 wd1 wc1 wm1).mono fun e W' ⟨he, bel⟩ => ?_
  subst he
  exact ⟨_, rfl, _, _, _, [], _, [], hW', trodAll_mk1 (shut_bool Try.underlying4 _), (trodAll_cons_mk (Below.trod laidOut (by kernel_rfl) (of_decide_eq_true (by kernel_rfl)) k0 bel lt0) (trodAll_cons_mk (Below.trod laidOut (by kernel_rfl) (of_decide_eq_true (by kernel_rfl)) k1 bel lt1) trodAll_mk0)), rfl, bel.frame _, fun h => by cases h⟩

set_option maxRecDepth 100000 in
theorem closed_FnErrorKept : joinedFacts Try.pinned.checked.prog 7 Try.f7 Rows.fnErrorKeptSpec Rows.fnErrorKeptRow = true := by
  unfold joinedFacts
  exact (and_i (and_i (and_i (and_i (and_i (and_i (and_i (and_i (and_i (and_i (and_i (and_i (and_i (and_i (and_i (and_i (and_i (and_i (and_i (and_i (and_i (and_i (and_i (and_i (and_i (and_i (and_i (and_i (and_i (and_i (and_i (by as_aux_lemma => kernel_rfl) (by as_aux_lemma => kernel_rfl)) (by as_aux_lemma => kernel_rfl)) (by as_aux_lemma => kernel_rfl)) (by as_aux_lemma => kernel_rfl)) (by as_aux_lemma => kernel_rfl)) (by as_aux_lemma => kernel_rfl)) (by as_aux_lemma => kernel_rfl)) (by as_aux_lemma => kernel_rfl)) (by as_aux_lemma => kernel_rfl)) (by as_aux_lemma => kernel_rfl)) (by as_aux_lemma => kernel_rfl)) (by as_aux_lemma => kernel_rfl)) (by as_aux_lemma => kernel_rfl)) (by as_aux_lemma => kernel_rfl)) (by as_aux_lemma => kernel_rfl)) (by as_aux_lemma => kernel_rfl)) (by as_aux_lemma => kernel_rfl)) (by as_aux_lemma => kernel_rfl)) (by as_aux_lemma => kernel_rfl)) (by as_aux_lemma => kernel_rfl)) (by as_aux_lemma => kernel_rfl)) (by as_aux_lemma => kernel_rfl)) (by as_aux_lemma => kernel_rfl)) (by as_aux_lemma => kernel_rfl)) mayEnter_yes) ((congrArg (Rows.fnErrorKeptRow.lifted == ·) liftsFinal_no).trans (by kernel_rfl))) ((congrArg (· == some Rows.fnErrorKeptRow.make) make_cut).trans (by kernel_rfl))) (by as_aux_lemma => kernel_rfl)) (by as_aux_lemma => kernel_rfl)) (by as_aux_lemma => kernel_rfl)) (by as_aux_lemma => kernel_rfl))

theorem over_FnErrorKept : Rows.fnErrorKeptRow.holds Try.pinned (OpenSpec.ofChange Rows.fnErrorKeptSpec) :=
  OpenClaim.holds_of_wide 7 Try.f7 rfl rfl rfl rfl rfl rfl rfl ⟨rfl, rfl, rfl, rfl, rfl⟩ rfl rfl rfl rfl rfl (by as_aux_lemma => kernel_rfl) Try.func7 closed_FnErrorKept
    (of_decide_eq_true (by kernel_rfl)) (by unfold Func.isWrapper; first | (rw [if_pos (by decide +kernel)]; kernel_rfl) | (rw [if_neg (by decide +kernel)]; exact ⟨rfl, rfl⟩))
    (fun os started H enc _ => lifted_FnErrorKept os started H enc)

/-- The statement. -/
theorem FnErrorKept_holds : Rows.FnErrorKeptSaid := over_FnErrorKept
#print axioms FnErrorKept_holds
end Go.Proofs.Ytdnepnnkpaoaaaa
