/- The walk of laws.FnExactBuild. -/
import Derived.Test.YtdnepnnkpaoaaaaWKit
import Derived.Test.YtdnepnnkpaoaaaaSpecBuild
import Derived.Test.YtdnepnnkpaoaaaaSpecRt
namespace Go.Proofs.Ytdnepnnkpaoaaaa
open Go.RowKit
set_option linter.unusedVariables false

set_option maxRecDepth 100000 in
set_option maxHeartbeats 1600000 in
theorem main_FnExactBuild (w : World) (a : Option Addr) (n c : Nat) (its : List It) (hn : its.length = n) (hi : ItsIn w w.heap.size a its) (hbd : bds its) (hz : n ≤ 2147483647) :
    Calls Try.prog 8 #[.slice a n c] w fun e w' => e = .returned (.bool true) ∧ Below w.heap.size w w' := by
  have R := Lib.hid (right_any a n c its w hn (by unfold RB; omega) hbd hi)
  have Hn := Lib.hid hn
  have HI := Lib.hid hi
  clear hn hi hbd
  obtain ⟨S, hS⟩ : ∃ S, S = runP PB.new its := ⟨_, rfl⟩
  have HS := Lib.hid hS
  clear hS
  go_enter Try.func8, Try.ntmps8
  go_wp2_with fail
  refine R.out.mono ?_
  rintro e w1 ⟨b, rfl, hb, F1⟩
  have b1 := F1.bel
  have Hb := Lib.hid hb
  clear hb F1
  cases b
  · go_wp2_with fail
    go_ret
    exact ⟨rfl, b1⟩
  · have HR := Lib.hid (Hb.out rfl)
    have B := Lib.hid (specBuild a n c its w1 Hn.out (HI.out.now b1) HR.out)
    rw [← HS.out] at B
    clear Hb
    go_wp2_with fail
    refine B.out.mono ?_
    rintro e w2 ⟨F2, hq⟩
    have b2 := Lib.hid (bel_then b1 F2.bel)
    clear F2
    rcases hq with ⟨q1, q2, a2, c2, rfl, q3, q4⟩ | ⟨q1, rfl⟩
    · have I := Lib.hid (iBuild a n c its w2 Hn.out (HI.out.now b2.out) 12 (by omega) HR.out.1 (by rw [← HS.out]; exact q2) (by have := HR.out.2; unfold Mx; omega))
      rw [← HS.out] at I
      unfold BuiltP at I
      rw [q1] at I
      simp only [Bool.false_eq_true, if_false] at I
      have Q4 := Lib.hid q4
      obtain ⟨L, hL⟩ : ∃ L, L = S.out.length := ⟨_, rfl⟩
      have HL := Lib.hid hL
      unfold GotPost at I
      rw [← hL] at I
      rw [← hL]
      clear q1 q2 q3 q4 hL
      go_wp2_with fail
      refine I.out.mono ?_
      rintro e w3 ⟨a3, c3, rfl, r1, r2, r3, r4⟩
      have b3 := bel_then b2.out r4
      have E := Lib.hid (same_self a3 a2 L c3 c2 S.out w3 w3.heap.size HL.out.symm r3 ((Q4.out.below r4).lt))
      clear r1 r2 r3 r4
      go_wp2_with fail
      refine E.out.mono ?_
      rintro e w4 ⟨rfl, rfl⟩
      go_wp2
      go_ret
      exact ⟨rfl, b3⟩
    · cases hw : S.wrong
      · have hf : S.failed = true := by rcases q1 with h | h; exact h; rw [hw] at h; cases h
        have I := Lib.hid (iBuild a n c its w2 Hn.out (HI.out.now b2.out) 12 (by omega) HR.out.1 (by rw [← HS.out]; exact hw) (by have := HR.out.2; unfold Mx; omega))
        rw [← HS.out] at I
        unfold BuiltP at I
        rw [hf] at I
        simp only [if_true] at I
        clear q1 hf hw
        go_wp2_with fail
        refine I.out.mono ?_
        rintro e w3 ⟨a3, c3, rfl, r1, r4⟩
        have b3 := bel_then b2.out r4
        go_wp2
        go_ret
        exact ⟨rfl, b3⟩
      · clear q1 hw
        go_wp2
        go_ret
        exact ⟨rfl, b2.out⟩

theorem walk_FnExactBuild (w : World) (a : Option Addr) (n c : Nat) (its : List It) (hn : its.length = n) (hi : ItsIn w w.heap.size a its) (hbd : bds its) (hc : n ≤ c) (hcm : c ≤ maxLen) :
    Calls Try.prog 8 #[.slice a n c] w fun e w' => e = .returned (.bool true) ∧ Below w.heap.size w w' := by
  by_cases hz : n ≤ 2147483647
  · exact main_FnExactBuild w a n c its hn hi hbd hz
  · clear hn hi hbd
    go_enter Try.func8, Try.ntmps8
    go_wp2
    go_ret
    exact ⟨rfl, Below.refl _ _⟩
end Go.Proofs.Ytdnepnnkpaoaaaa
