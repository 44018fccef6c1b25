/- Proved: laws.FnFixedRoom returns true for every input, and each argument reads afterwards as it read before. Conditions: none. -/
import Derived.Test.YtdnepnnkpaoaaaaRows
import Derived.Test.YtdnepnnkpaoaaaaMF
import Derived.Test.YtdnepnnkpaoaaaaHead
import Derived.Test.YtdnepnnkpaoaaaaFrameT
import Derived.Test.YtdnepnnkpaoaaaaWFnFixedRoom
namespace Go.Proofs.Ytdnepnnkpaoaaaa
open Go.ChangeShapes Go.WideShapes Go.ChangeAt Go.RowKit
set_option linter.unusedVariables false

set_option maxRecDepth 100000 in
theorem lifted_FnFixedRoom (os : Os) (started : os.Started) (H : Type) (enc : TypeId × Value → H) :
    ReturnsInHanded {} Try.checked os 4 .any (Rows.fnFixedRoomSpec.pre6 enc Try.prog Try.f4 Rows.fnFixedRoomRow.domain false) (Rows.fnFixedRoomSpec.post enc Try.prog Try.f4 false true false false) := by
  refine returnsInHanded_of_change_sized (C := Try.checked) own started (by kernel_rfl) Try.func4
    (ChangeSpec.witness6 (enc := enc) (C := Try.checked) false ⟨#[], #[.slice none 0 0], []⟩ 8 (by kernel_rfl) (by kernel_rfl) (by kernel_rfl) (by kernel_rfl)) ?_
  intro W base args ds gs before hval0 hW hcnd hsz0 _
  have hval : ∀ (j : Nat) t v, Try.f4.params[j]? = some t → args[j]? = some v → Value.okWide Try.prog W .any base t v := hval0
  have hW' := hW
  obtain ⟨p, q, hA0, hV, rfl, hfz, hnd⟩ := hW
  have hA : DataW.TrodAll enc Try.prog W 0 (fun _ => true) true Try.f4.params.toList args.toList ds p := hA0
  rw [Try.params4] at hA hval
  have hsz : (DataW.weightsEach Try.prog (Try.f4.params.toList ++ Rows.fnFixedRoomSpec.plain.varTypes Try.prog) (ds ++ gs)).all (· ≤ reachBytes) = true := hsz0
  rw [Try.params4] at hsz
  obtain ⟨v0, vs0, d0, ds0, p0, q0, hargs, rfl, rfl, h0, r0⟩ := trodAll_cons hA
  obtain ⟨rfl, rfl, rfl⟩ := trodAll_nil r0
  obtain rfl : args = #[v0] := by cases args; simp_all
  obtain ⟨rfl, rfl⟩ := trodVars_none hV
  obtain ⟨a0, len0, cap0, rfl⟩ := okWide_slice Try.underlying23 (hval 0 23 v0 rfl rfl)
  have k0 := h0
  have lt0 : ∀ x ∈ p0, x.block < W.heap.size := by obtain ⟨m, hm⟩ := k0; exact DataW.trod_lt m _ _ _ hm
  obtain ⟨z0, wn0, wb0, wd0, wc0, wm0⟩ := items_arg h0 (fun z hz => by simpa using List.all_eq_true.1 hsz z (DataW.weights_mem_each (j := 0) rfl rfl z hz))
  clear hA0 hval0
  refine (walk_FnFixedRoom W a0 len0 cap0 z0 wn0 wb0 wd0 wc0 wm0).mono fun e W' ⟨he, bel⟩ => ?_
  subst he
  exact ⟨_, rfl, _, _, _, [], _, [], hW', trodAll_mk1 (shut_bool Try.underlying4 _), (trodAll_cons_mk (Below.trod laidOut (by kernel_rfl) (of_decide_eq_true (by kernel_rfl)) k0 bel lt0) trodAll_mk0), rfl, bel.frame _, fun h => by cases h⟩

set_option maxRecDepth 100000 in
theorem closed_FnFixedRoom : joinedFacts Try.pinned.checked.prog 4 Try.f4 Rows.fnFixedRoomSpec Rows.fnFixedRoomRow = true := by
  unfold joinedFacts
  exact (and_i (and_i (and_i (and_i (and_i (and_i (and_i (and_i (and_i (and_i (and_i (and_i (and_i (and_i (and_i (and_i (and_i (and_i (and_i (and_i (and_i (and_i (and_i (and_i (and_i (and_i (and_i (and_i (and_i (and_i (and_i (by as_aux_lemma => kernel_rfl) (by as_aux_lemma => kernel_rfl)) (by as_aux_lemma => kernel_rfl)) (by as_aux_lemma => kernel_rfl)) (by as_aux_lemma => kernel_rfl)) (by as_aux_lemma => kernel_rfl)) (by as_aux_lemma => kernel_rfl)) (by as_aux_lemma => kernel_rfl)) (by as_aux_lemma => kernel_rfl)) (by as_aux_lemma => kernel_rfl)) (by as_aux_lemma => kernel_rfl)) (by as_aux_lemma => kernel_rfl)) (by as_aux_lemma => kernel_rfl)) (by as_aux_lemma => kernel_rfl)) (by as_aux_lemma => kernel_rfl)) (by as_aux_lemma => kernel_rfl)) (by as_aux_lemma => kernel_rfl)) (by as_aux_lemma => kernel_rfl)) (by as_aux_lemma => kernel_rfl)) (by as_aux_lemma => kernel_rfl)) (by as_aux_lemma => kernel_rfl)) (by as_aux_lemma => kernel_rfl)) (by as_aux_lemma => kernel_rfl)) (by as_aux_lemma => kernel_rfl)) (by as_aux_lemma => kernel_rfl)) mayEnter_yes) ((congrArg (Rows.fnFixedRoomRow.lifted == ·) liftsFinal_no).trans (by kernel_rfl))) ((congrArg (· == some Rows.fnFixedRoomRow.make) make_cut).trans (by kernel_rfl))) (by as_aux_lemma => kernel_rfl)) (by as_aux_lemma => kernel_rfl)) (by as_aux_lemma => kernel_rfl)) (by as_aux_lemma => kernel_rfl))

theorem over_FnFixedRoom : Rows.fnFixedRoomRow.holds Try.pinned (OpenSpec.ofChange Rows.fnFixedRoomSpec) :=
  OpenClaim.holds_of_wide 4 Try.f4 rfl rfl rfl rfl rfl rfl rfl ⟨rfl, rfl, rfl, rfl, rfl⟩ rfl rfl rfl rfl rfl (by as_aux_lemma => kernel_rfl) Try.func4 closed_FnFixedRoom
    (of_decide_eq_true (by kernel_rfl)) (by unfold Func.isWrapper; first | (rw [if_pos (by decide +kernel)]; kernel_rfl) | (rw [if_neg (by decide +kernel)]; exact ⟨rfl, rfl⟩))
    (fun os started H enc _ => lifted_FnFixedRoom os started H enc)

/-- The statement. -/
theorem FnFixedRoom_holds : Rows.FnFixedRoomSaid := over_FnFixedRoom
#print axioms FnFixedRoom_holds
end Go.Proofs.Ytdnepnnkpaoaaaa
