/- The walk of laws.FnExactBuildFixed. -/
import Derived.Test.YtdnepnnkpaoaaaaFixed
import Derived.Test.YtdnepnnkpaoaaaaRead3
namespace Go.Proofs.Ytdnepnnkpaoaaaa
open Go.RowKit
set_option linter.unusedVariables false

set_option maxRecDepth 100000 in
set_option maxHeartbeats 3200000 in
theorem main_FnExactBuildFixed (w : World) (a : Option Addr) (n c : Nat) (xs : List Int) (hn : xs.length = n) (hb : BIn w w.heap.size a xs) (room : Int) (A : Option Addr) (m C : Nat) (its : List It) (hm : its.length = m) (hi : ItsIn w w.heap.size A its) (hbd : bds its) (hz : n ≤ 2147483647) (hz2 : m ≤ 2147483647) :
    Calls Try.prog 3 #[.slice a n c, .int .i64 room, .slice A m C] w fun e w' => e = .returned (.bool true) ∧ Below w.heap.size w w' := by
  have R := Lib.hid (right_any A m C its w hm (by unfold RB; omega) hbd hi)
  have Hn := Lib.hid hn
  have HB := Lib.hid hb
  have Hm := Lib.hid hm
  have HI := Lib.hid hi
  have Hbd := Lib.hid hbd
  clear hn hb hm hi hbd
  go_enter Try.func3, Try.ntmps3
  go_wp2_with fail
  refine R.out.mono ?_
  rintro e w1 ⟨b, rfl, hb, F1⟩
  have b1 := Lib.hid F1.bel
  have Hb := Lib.hid hb
  clear hb F1
  cases b
  · go_wp2_with fail
    go_ret
    exact ⟨rfl, b1.out⟩
  · have HR := Lib.hid (Hb.out rfl)
    clear Hb
    have K := Lib.hid (takesBack_any (costs its + 1) A m C its w1 w1.heap.size (by omega) Hm.out (by unfold RB; omega) Hbd.out (HI.out.now b1.out))
    go_wp2_with fail
    refine K.out.mono ?_
    rintro e w3 ⟨b, rfl, hb, rfl⟩
    have Hb := Lib.hid hb
    clear hb K
    cases b
    · have HT := Lib.hid (Hb.out rfl)
      clear Hb
      by_cases hr0 : room < 0
      · go_wp2
        go_ret
        exact ⟨rfl, b1.out⟩
      · by_cases hr1 : 5000 < room
        · go_wp2
          go_ret
          exact ⟨rfl, b1.out⟩
        · by_cases hl : 5000 < n
          · go_wp2
            go_ret
            exact ⟨rfl, b1.out⟩
          · obtain ⟨rm, rfl⟩ : ∃ rm : Nat, room = rm := ⟨room.toNat, by omega⟩
            have hrm : rm ≤ 5000 := by omega
            have hnl : n ≤ 5000 := by omega
            clear hr0 hr1 hl
            have hw := run_nw PB.new its HT.out rfl
            have B1 := Lib.hid (buildSaid A m C its w1 Hm.out (HI.out.now b1.out) HR.out hw)
            have X := Lib.hid (fun W (hb : Below w.heap.size w W) (hf : (runP PB.new its).failed = false) (hr : (runP PB.new its).out.length ≤ rm) => iBuildFixed_ok a n c rm xs A m C its W Hn.out (HB.out.now hb) (by omega) Hm.out (HI.out.now hb) HR.out.1 (by have := HR.out.2; unfold Mx; omega) HT.out hf hr)
            obtain ⟨S, hS⟩ : ∃ S, S = runP PB.new its := ⟨_, rfl⟩
            rw [← hS] at B1 X
            clear hw hS
            go_wp2_with fail
            refine B1.out.mono ?_
            rintro e w4 ⟨a4, n4, c4, rfl, b4, x4⟩
            have b4' := Lib.hid (bel_then b1.out b4)
            have X4 := Lib.hid x4
            clear b4 x4
            cases hf : S.failed
            · obtain ⟨e4, y4⟩ := X4.out hf
              by_cases hlr : n4 ≤ rm
              · have I := Lib.hid (X.out w4 b4'.out hf (by omega))
                have Y4 := Lib.hid y4
                have E4 := Lib.hid e4
                have Hlen := Lib.hid (show (xs ++ S.out).length = n + n4 by rw [List.length_append, Hn.out, E4.out])
                unfold GotPost at I
                rw [Hlen.out] at I
                clear hf e4 y4 X X4
                go_wp2_with fail
                refine I.out.mono ?_
                rintro e w5 ⟨a5, c5, rfl, _, _, y5, b5⟩
                have b5' := Lib.hid (bel_then b4'.out b5)
                have Y5 := Lib.hid y5
                have D := Lib.hid (behind_any a a4 n c n4 c4 xs S.out w5 Hn.out E4.out.symm (HB.out.now b5'.out) (Y4.out.now b5) (by omega))
                clear b5 y5
                go_wp2_with fail
                refine D.out.mono ?_
                rintro e w6 ⟨a6, c6, rfl, _, _, y6, b6, _⟩
                have b6' := Lib.hid (bel_then b5'.out b6)
                have E := Lib.hid (same_self a5 a6 (n + n4) c5 c6 (xs ++ S.out) w6 w6.heap.size Hlen.out (Y5.out.now b6) y6)
                clear b6 y6
                go_wp2_with fail
                refine E.out.mono ?_
                rintro e w7 ⟨rfl, rfl⟩
                go_wp2
                go_ret
                exact ⟨rfl, b6'.out⟩
              · clear hf e4 y4 X X4
                go_wp2
                go_ret
                exact ⟨rfl, b4'.out⟩
            · clear hf X X4
              go_wp2
              go_ret
              exact ⟨rfl, b4'.out⟩
    · go_wp2_with fail
      go_ret
      exact ⟨rfl, b1.out⟩

theorem walk_FnExactBuildFixed (w : World) (a : Option Addr) (n c : Nat) (xs : List Int) (hn : xs.length = n) (hb : BIn w w.heap.size a xs) (hx : Byt xs) (hc : n ≤ c) (hcm : c ≤ maxLen) (room : Int) (wr : (Lit.int .i64 room).wf = true) (A : Option Addr) (m C : Nat) (its : List It) (hm : its.length = m) (hi : ItsIn w w.heap.size A its) (hbd : bds its) (hc2 : m ≤ C) (hcm2 : C ≤ maxLen) :
    Calls Try.prog 3 #[.slice a n c, .int .i64 room, .slice A m C] w fun e w' => e = .returned (.bool true) ∧ Below w.heap.size w w' := by
  by_cases hz : n ≤ 2147483647
  · by_cases hz2 : m ≤ 2147483647
    · exact main_FnExactBuildFixed w a n c xs hn hb room A m C its hm hi hbd hz hz2
    · clear hn hb hx hm hi hbd wr
      go_enter Try.func3, Try.ntmps3
      go_wp2
      go_ret
      exact ⟨rfl, Below.refl _ _⟩
  · clear hn hb hx hm hi hbd wr
    go_enter Try.func3, Try.ntmps3
    go_wp2
    go_ret
    exact ⟨rfl, Below.refl _ _⟩
end Go.Proofs.Ytdnepnnkpaoaaaa
