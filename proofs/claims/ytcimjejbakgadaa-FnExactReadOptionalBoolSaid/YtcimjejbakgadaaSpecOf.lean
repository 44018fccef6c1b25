/- The contract of the reference's FirstOf. -/
import Derived.Test.YtcimjejbakgadaaSpecDer
namespace Go.Proofs.Ytcimjejbakgadaa
open Go.RowKit
set_option linter.unusedVariables false

/-- 's[i:j]' of bytes, laid ahead of a walk. -/
theorem sl_mid (a : Option Addr) (n c : Nat) (i j : Int) (l m : Nat) (hi : i = l) (hj : j = m) (hl : l ≤ m) (hm : m ≤ c) (w : World) :
    (Instr.sliceAt 24 (.slice a n c) (some (.int .i64 i)) (some (.int .i64 j)) none).run Try.prog w = .ok (.slice (cutA a c l) (m - l) (c - l)) w := by
  subst hi; subst hj
  have ht : Try.prog.underlying 24 = some (.slice (Try.prog.elem 24)) := by kernel_rfl
  have hs : ∀ w, (sizeOf (Try.prog.elem 24)).run Try.prog w = .ok 1 w := fun w => by kernel_rfl
  rw [run_sliceAt_slice w _ _ _ _ _ ht, run_slice_lh w _ a n c ht _ _ _ _ (by omega) (by omega) (by omega), hs]
  simp [Result.andThen, sliced, cutA]

/-- What FirstOf hands back: the contents and what stands behind them, of the bytes that came in. -/
def FOPost (B : Nat) (xs : List Int) (tag : Int) (w : World) (e : Ending) (w' : World) : Prop :=
  Below w.heap.size w w' ∧
  match firstOf xs tag with
  | some (out, rest) => ∃ a1 c1 a2 c2, e = .returned (.tuple #[.slice a1 out.length c1, .slice a2 rest.length c2, .bool true]) ∧ out.length ≤ c1 ∧ c1 ≤ maxLen ∧ rest.length ≤ c2 ∧ c2 ≤ maxLen ∧ BIn w' B a1 out ∧ BIn w' B a2 rest
  | none => e = .returned (.tuple #[.slice none 0 0, .slice none 0 0, .bool false])

theorem foPost_none {B : Nat} {xs : List Int} {tag : Int} {w w' : World} (h : firstOf xs tag = none) (hb : Below w.heap.size w w') : FOPost B xs tag w (.returned (.tuple #[.slice none 0 0, .slice none 0 0, .bool false])) w' := by
  refine ⟨hb, ?_⟩
  rw [h]

set_option maxRecDepth 100000 in
set_option maxHeartbeats 800000 in
theorem firstOf_any (a : Option Addr) (n c : Nat) (xs : List Int) (tag : Int) (B : Nat) (w : World) (hn : xs.length = n) (hc : n ≤ c) (hm : c ≤ maxLen) (hb : BIn w B a xs) (hBw : B ≤ w.heap.size) (hx : Byt xs) (hl : n ≤ 4194304000) :
    Calls Try.prog 52 #[.slice a n c, .int .i64 tag] w (FOPost B xs tag w) := by
  have F := Lib.hid (first_any a n c xs B w hn hc hb hBw hx hl)
  cases hf : first xs with
  | none =>
    have E := Lib.hid (firstVal_none hf)
    have N := Lib.hid (firstOf_none (tag := tag) hf)
    clear hb hx hl hn hf
    go_enter Try.func52, Try.ntmps52
    go_wp2_with fail
    refine F.out.mono ?_
    rintro e w1 ⟨rfl, p1⟩
    rw [E.out]
    go_wp2_with fail
    go_ret3
    exact foPost_none N.out (by first | exact p1.alloc p1.size _ | exact (p1.alloc p1.size _).setCell (by simp) _)
  | some v =>
    obtain ⟨t, b, k⟩ := v
    have E := Lib.hid (firstVal_some hf)
    have hb3 := first_bounds hf
    obtain ⟨b1, b2, b3, _, _, b6⟩ := hb3
    rw [hn] at b3
    have sl := sl_from a n c k k rfl b3
    have sm := sl_mid a n c b k b k rfl rfl b2 (by omega)
    by_cases ht : t = tag
    · have N := Lib.hid (show firstOf xs tag = some ((xs.take k).drop b, xs.drop k) by rw [firstOf_some hf, if_pos ht])
      have Z := Lib.hid (show BIn w B (cutA a c b) ((xs.take k).drop b) ∧ BIn w B (cutA a c k) (xs.drop k) ∧ ((xs.take k).drop b).length = k - b ∧ (xs.drop k).length = n - k from
        ⟨(hb.take k).cut (by rw [List.length_take]; omega), hb.cut (by omega), by rw [List.length_drop, List.length_take]; omega, by rw [List.length_drop, hn]⟩)
      have t1 : (t != tag) = false := by simp [ht]
      subst ht
      clear hb hx hl hn hf
      go_enter Try.func52, Try.ntmps52
      go_wp2_with fail
      refine F.out.mono ?_
      rintro e w1 ⟨rfl, p1⟩
      rw [E.out]
      go_wp2_with fail
      go_quiet (fail)
      go_wp2_with fail
      go_ret3
      obtain ⟨z1, z2, z3, z4⟩ := Z.out
      have hB' : Below w.heap.size w ((w1.alloc (.cells #[.int .i64 t, .int .i64 b, .int .i64 k] 46)).drewN nq) := ((Fr.of_below p1 []).alloc _ |>.drewN _).below (by simp) (Nat.le_refl _)
      refine ⟨hB', ?_⟩
      rw [N.out]
      refine ⟨cutA a c b, c - b, cutA a c k, c - k, ?_, by omega, by omega, by omega, by omega, (hB'.mono hBw |> fun h => z1.below h), (hB'.mono hBw |> fun h => z2.below h)⟩
      rw [z3, z4]
      rfl
    · have N := Lib.hid (show firstOf xs tag = none by rw [firstOf_some hf, if_neg ht])
      have t1 : (t != tag) = true := by simp [ht]
      clear hb hx hl hn hf
      go_enter Try.func52, Try.ntmps52
      go_wp2_with fail
      refine F.out.mono ?_
      rintro e w1 ⟨rfl, p1⟩
      rw [E.out]
      go_wp2_with fail
      go_ret3
      exact foPost_none N.out (p1.alloc p1.size _)
end Go.Proofs.Ytcimjejbakgadaa
