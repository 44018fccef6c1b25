/- The walk of laws.FnValue. -/
import Derived.Test.YtdnepnnkpaoaaaaWLaw
namespace Go.Proofs.Ytdnepnnkpaoaaaa
open Go.RowKit
set_option linter.unusedVariables false

set_option maxRecDepth 100000 in
set_option maxHeartbeats 3200000 in
theorem main_FnValue (w : World) (a : Option Addr) (n c : Nat) (its : List It) (hn : its.length = n) (hi : ItsIn w w.heap.size a its) (hbd : bds its) (hc : n ≤ c) (hcm : c ≤ maxLen) (hz : n ≤ 2147483647) :
    Calls Try.prog 9 #[.slice a n c] w fun e w' => e = .returned (.bool true) ∧ Below w.heap.size w w' := by
  have R := Lib.hid (right_any a n c its w hn (by unfold RB; omega) hbd hi)
  have Hn := Lib.hid hn
  have HI := Lib.hid hi
  have Hbd := Lib.hid hbd
  have HL := Lib.hid (fun (W : World) (kd : Int) (hb : Below w.heap.size w W) => lit_its w W kd 0 a n c its hn hi hc hcm hb)
  clear hn hi hbd
  go_enter Try.func9, Try.ntmps9
  go_wp2_with fail
  refine R.out.mono ?_
  rintro e w1 ⟨b, rfl, hb, F1⟩
  have b1 := F1.bel
  have Hb := Lib.hid hb
  clear hb F1
  cases b
  · go_wp2_with fail
    go_ret
    exact ⟨rfl, b1⟩
  · have HR := Lib.hid (Hb.out rfl)
    clear Hb
    obtain ⟨bL, iL⟩ := HL.out w1 24 b1
    have R2 := Lib.hid (right_any (some ⟨w1.heap.size, 0, none⟩) 1 1 [.mk 24 0 0 [] [] its] _ rfl (by unfold RB; omega) (bds_one Hbd.out (by rw [Hn.out]; unfold RB; omega)) iL)
    have BL := Lib.hid bL
    clear bL iL
    go_wp2_with fail
    refine R2.out.mono ?_
    rintro e w2 ⟨b, rfl, hb, F2⟩
    have b2 := Lib.hid (bel_then BL.out F2.bel)
    have Hb := Lib.hid hb
    clear hb F2 BL
    cases b
    · go_wp2_with fail
      go_ret
      exact ⟨rfl, b2.out⟩
    · have HR2 := Lib.hid (Hb.out rfl)
      clear Hb
      obtain ⟨S, hS⟩ : ∃ S, S = runP PB.new its := ⟨_, rfl⟩
      have HS := Lib.hid hS
      cases hw : S.wrong
      · have B1 := Lib.hid (buildSaid a n c its w2 Hn.out (HI.out.now b2.out) HR.out (by rw [← hS]; exact hw))
        rw [← hS] at B1
        have I1 := Lib.hid (fun W (hb : Below w.heap.size w W) => buildB a n c its W Hn.out (HI.out.now hb) HR.out.1 (by have := HR.out.2; omega) (by rw [← hS]; exact hw))
        rw [← hS] at I1
        have I2 := Lib.hid (fun W (hb : Below w.heap.size w W) => buildB (some ⟨W.heap.size, 0, none⟩) 1 1 [.mk 24 0 0 [] [] its] _ rfl (HL.out W 24 hb).2 HR2.out.1 (by have := HR2.out.2; omega) (by rw [run_value, ← hS]; exact hw))
        rw [run_value, ← hS] at I2
        have I3 := Lib.hid (fun W (hb : Below w.heap.size w W) => buildB (some ⟨W.heap.size, 0, none⟩) 1 1 [.mk 25 0 0 [] [] its] _ rfl (HL.out W 25 hb).2 (badv_ok HR2.out.1) (by have := HR2.out.2; rw [costs_one, cost_mk] at *; omega) (by rw [run_badv, ← hS]; exact hw))
        rw [run_badv, ← hS] at I3
        clear hS hw
        go_wp2_with fail
        refine B1.out.mono ?_
        rintro e w3 ⟨a3, n3, c3, rfl, b3, _⟩
        have b3' := Lib.hid (bel_then b2.out b3)
        clear b3
        go_wp2_with fail
        refine (I1.out w3 b3'.out).mono ?_
        rintro e w4 ⟨a4, n4, c4, rfl, b4, l4, m4, x4, _⟩
        have b4' := Lib.hid (bel_then b3'.out b4)
        have X4 := Lib.hid x4
        clear b4 x4
        go_wp2_with fail
        refine (I2.out w4 b4'.out).mono ?_
        rintro e w5 ⟨a5, n5, c5, rfl, b5, l5, m5, x5, _⟩
        have BL5 := Lib.hid b5
        have b5' := Lib.hid (bel_then (HL.out w4 24 b4'.out).1 b5)
        have X5 := Lib.hid x5
        clear b5 x5
        go_wp2_with fail
        refine (I3.out w5 b5'.out).mono ?_
        rintro e w6 ⟨a6, n6, c6, rfl, b6, _⟩
        have BL6 := Lib.hid b6
        have b6' := Lib.hid (bel_then (HL.out w5 25 b5'.out).1 b6)
        clear b6
        have hff : S.fail.failed = true := rfl
        rw [hff]
        obtain ⟨L, hL⟩ : ∃ L, L = S.out.length := ⟨_, rfl⟩
        have HLn := Lib.hid hL
        cases hf : S.failed
        · obtain ⟨e4, y4⟩ := X4.out hf
          obtain ⟨e5, y5⟩ := X5.out hf
          rw [← hL] at e4 e5
          subst e4 e5
          have Y4 := Lib.hid ((((y4.now (bel_alloc w4 _)).now BL5.out).now (bel_alloc w5 _)).now BL6.out)
          have Y5 := Lib.hid ((y5.now (bel_alloc w5 _)).now BL6.out)
          have E := Lib.hid (same_self a4 a5 n5 c4 c5 S.out w6 w6.heap.size HLn.out.symm Y4.out Y5.out)
          clear hL hf y4 y5 X4 X5
          go_wp2_with fail
          refine E.out.mono ?_
          rintro e w7 ⟨rfl, rfl⟩
          go_wp2
          go_ret
          exact ⟨rfl, b6'.out⟩
        · clear hL hf X4 X5
          go_wp2
          go_ret
          exact ⟨rfl, b6'.out⟩
      · have B1 := Lib.hid (buildUnsaid a n c its w2 Hn.out (HI.out.now b2.out) HR.out (by rw [← hS]; exact hw))
        clear hS hw
        go_wp2_with fail
        refine B1.out.mono ?_
        rintro e w3 ⟨a3, n3, c3, b3, rfl, h3⟩
        go_wp2
        go_ret
        exact ⟨rfl, bel_then b2.out h3⟩

theorem walk_FnValue (w : World) (a : Option Addr) (n c : Nat) (its : List It) (hn : its.length = n) (hi : ItsIn w w.heap.size a its) (hbd : bds its) (hc : n ≤ c) (hcm : c ≤ maxLen) :
    Calls Try.prog 9 #[.slice a n c] w fun e w' => e = .returned (.bool true) ∧ Below w.heap.size w w' := by
  by_cases hz : n ≤ 2147483647
  · exact main_FnValue w a n c its hn hi hbd hc hcm hz
  · clear hn hi hbd
    go_enter Try.func9, Try.ntmps9
    go_wp2
    go_ret
    exact ⟨rfl, Below.refl _ _⟩
end Go.Proofs.Ytdnepnnkpaoaaaa
