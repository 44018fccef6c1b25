/- The walk of laws.FnFixedRoom. -/
import Derived.Test.YtdnepnnkpaoaaaaDirect
import Derived.Test.YtdnepnnkpaoaaaaWLaw
namespace Go.Proofs.Ytdnepnnkpaoaaaa
open Go.RowKit
set_option linter.unusedVariables false

set_option maxRecDepth 100000 in
set_option maxHeartbeats 3200000 in
theorem main_FnFixedRoom (w : World) (a : Option Addr) (n c : Nat) (its : List It) (hn : its.length = n) (hi : ItsIn w w.heap.size a its) (hbd : bds its) (hz : n ≤ 2147483647) :
    Calls Try.prog 4 #[.slice a n c] w fun e w' => e = .returned (.bool true) ∧ Below w.heap.size w w' := by
  have R := Lib.hid (right_any a n c its w hn (by unfold RB; omega) hbd hi)
  have Hn := Lib.hid hn
  have HI := Lib.hid hi
  clear hn hi hbd
  go_enter Try.func4, Try.ntmps4
  go_wp2_with fail
  refine R.out.mono ?_
  rintro e w1 ⟨b, rfl, hb, F1⟩
  have b1 := Lib.hid F1.bel
  have Hb := Lib.hid hb
  clear hb F1
  cases b
  · go_wp2_with fail
    go_ret
    exact ⟨rfl, b1.out⟩
  · have HR := Lib.hid (Hb.out rfl)
    clear Hb
    have K := Lib.hid (direct_any a n c its w1 w1.heap.size Hn.out (by unfold RB; omega) (HI.out.now b1.out))
    go_wp2_with fail
    refine K.out.mono ?_
    rintro e w3 ⟨b, rfl, hb, rfl⟩
    have Hb := Lib.hid hb
    clear hb K
    cases b
    · go_wp2_with fail
      go_ret
      exact ⟨rfl, b1.out⟩
    · have HD := Lib.hid (Hb.out rfl)
      clear Hb
      obtain ⟨r1, r2, r3⟩ := run_dirB its PB.new HD.out rfl rfl
      have r1' : (runP PB.new its).out = dirsB its := by rw [r1]; rfl
      have I := Lib.hid (buildB a n c its w1 Hn.out (HI.out.now b1.out) HR.out.1 (by have := HR.out.2; omega) r3)
      unfold BuiltB at I
      rw [r2, r1'] at I
      have X := Lib.hid (fun W (rm : Nat) (hb : Below w.heap.size w W) (hr : rm ≤ 5000) => iBuildFixed_dir none 0 0 rm [] a n c its W rfl (BIn.nil _ _ _) (by omega) Hn.out (HI.out.now hb) HR.out.1 (by have := HR.out.2; unfold Mx; omega) HD.out)
      obtain ⟨ys, hys⟩ : ∃ ys, ys = dirsB its := ⟨_, rfl⟩
      rw [← hys] at I X
      clear r1 r2 r3 r1' hys
      go_wp2_with fail
      refine I.out.mono ?_
      rintro e w4 ⟨a4, n4, c4, rfl, b4, l4, m4, x4, _⟩
      have b4' := Lib.hid (bel_then b1.out b4)
      obtain ⟨e4, y4⟩ := x4 trivial
      have E4 := Lib.hid e4
      have Y4 := Lib.hid y4
      clear b4 x4 e4 y4
      by_cases hl : 5000 < n4
      · go_wp2
        go_ret
        exact ⟨rfl, b4'.out⟩
      · have hl' : n4 ≤ 5000 := by omega
        clear hl
        have X1 := Lib.hid (X.out w4 n4 b4'.out hl')
        go_wp2_with fail
        refine X1.out.mono ?_
        rintro e w5 (⟨_, a5, c5, rfl, _, _, y5, b5⟩ | ⟨h, _⟩)
        · have Y5 := Lib.hid y5
          have B5 := Lib.hid b5
          have b5' := Lib.hid (bel_then b4'.out b5)
          clear y5 b5
          rw [List.nil_append] at Y5 ⊢
          rw [← E4.out]
          rcases Nat.eq_zero_or_pos n4 with h0 | h0
          · subst h0
            have E := Lib.hid (same_self a5 a4 0 c5 c4 ys w5 w5.heap.size E4.out.symm Y5.out (Y4.out.now B5.out))
            go_wp2_with fail
            refine E.out.mono ?_
            rintro e w6 ⟨rfl, rfl⟩
            go_wp2
            go_ret
            exact ⟨rfl, b5'.out⟩
          · obtain ⟨k, rfl⟩ : ∃ k, n4 = k + 1 := ⟨n4 - 1, by omega⟩
            have X2 := Lib.hid (X.out w5 k b5'.out (by omega))
            go_wp2_with fail
            refine X2.out.mono ?_
            rintro e w6 (⟨h, _⟩ | ⟨_, a6, c6, rfl, _, b6⟩)
            · exfalso; have := E4.out; omega
            · have b6' := Lib.hid (bel_then b5'.out b6)
              have E := Lib.hid (same_self a5 a4 (k + 1) c5 c4 ys w6 w6.heap.size E4.out.symm (Y5.out.now b6) ((Y4.out.now B5.out).now b6))
              clear b6
              go_wp2_with fail
              refine E.out.mono ?_
              rintro e w7 ⟨rfl, rfl⟩
              go_wp2
              go_ret
              exact ⟨rfl, b6'.out⟩
        · exfalso; have := E4.out; omega

theorem walk_FnFixedRoom (w : World) (a : Option Addr) (n c : Nat) (its : List It) (hn : its.length = n) (hi : ItsIn w w.heap.size a its) (hbd : bds its) (hc : n ≤ c) (hcm : c ≤ maxLen) :
    Calls Try.prog 4 #[.slice a n c] w fun e w' => e = .returned (.bool true) ∧ Below w.heap.size w w' := by
  by_cases hz : n ≤ 2147483647
  · exact main_FnFixedRoom w a n c its hn hi hbd hz
  · clear hn hi hbd
    go_enter Try.func4, Try.ntmps4
    go_wp2
    go_ret
    exact ⟨rfl, Below.refl _ _⟩
end Go.Proofs.Ytdnepnnkpaoaaaa
