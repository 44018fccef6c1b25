/- The contract of the reference's Right. -/
import Derived.Test.YtdnepnnkpaoaaaaSpecSteps
namespace Go.Proofs.Ytdnepnnkpaoaaaa
open Go.RowKit
set_option linter.unusedVariables false

/-- What is asked of steps that are right. -/
def RightP (its : List It) : Prop := okIs false 12 its = true ∧ costs its ≤ 204800

set_option maxRecDepth 100000 in
set_option maxHeartbeats 1600000 in
theorem right_any (a : Option Addr) (n c : Nat) (its : List It) (w : World) (hn : its.length = n) (hRB : n ≤ RB) (hbd : bds its) (hi : ItsIn w w.heap.size a its) :
    Calls Try.prog 11 #[.slice a n c] w (Yes (RightP its) w) := by
  have H1 := Lib.hid (items_any (costs its + 1) a n c its 300 w w.heap.size (by omega) hn hRB hbd hi (by omega))
  have H2 := Lib.hid (fun h => holds_any (costs its + 1) a n c its w w.heap.size (by omega) hn hRB hbd hi h)
  have H3 := Lib.hid (fun q => specSteps_any 13 12 false a n c its (w.drewN q) w.heap.size (by omega) (by omega) hn hRB hbd (hi.drewN q) (Nat.le_refl _))
  have HH := Lib.hid (holdss_le its hbd)
  have HC := Lib.hid (costs_eq its)
  clear hn hi hbd hRB
  go_enter Try.func11, Try.ntmps11
  go_wp2_with fail
  refine H1.out.mono ?_
  rintro e w1 ⟨v, rfl, ⟨v1, v2⟩, rfl⟩
  have V1 := Lib.hid v1
  have V2 := Lib.hid v2
  clear v1 v2
  by_cases hv : v ≤ 300
  · have hv' : decide ((v : Int) ≤ 300) = true := by simp; omega
    have hle : holdss its ≤ 1000000000000000000 := by have := HH.out; have := V2.out hv; unfold RB at *; omega
    have H2' := Lib.hid (H2.out hle)
    obtain ⟨S, hS⟩ : ∃ S, S = holdss its := ⟨_, rfl⟩
    have HS := Lib.hid hS
    rw [← hS] at H2'
    clear hS hle
    go_wp2_with fail
    refine H2'.out.mono ?_
    rintro e w2 ⟨rfl, q, rfl⟩
    by_cases hs : S ≤ 200000
    · have hs' : decide ((S : Int) ≤ 200000) = true := by simp; omega
      go_wp2_with fail
      refine (H3.out q).mono ?_
      rintro e w3 ⟨bb, rfl, hbb, hF⟩
      have Hbb := Lib.hid hbb
      have HF := Lib.hid hF
      clear hbb hF
      go_wp2_with fail
      go_ret
      exact ⟨bb, rfl, fun h => ⟨Hbb.out h, by rw [HC.out, ← V2.out hv, ← HS.out]; omega⟩, ((Fr.refl [] w).drewN q).trans HF.out (by simp)⟩
    · have hs' : decide ((S : Int) ≤ 200000) = false := by simp; omega
      go_wp2_with fail
      go_ret
      exact Yes.no ((Fr.refl [] w).drewN q)
  · have hv' : decide ((v : Int) ≤ 300) = false := by simp; omega
    go_wp2_with fail
    go_ret
    exact Yes.no (Fr.refl [] w)
end Go.Proofs.Ytdnepnnkpaoaaaa
