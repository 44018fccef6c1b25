/- The walk of laws.FnWrapped. -/
import Derived.Test.YtdnepnnkpaoaaaaWLaw
import Derived.Test.YtdnepnnkpaoaaaaIAsn
namespace Go.Proofs.Ytdnepnnkpaoaaaa
open Go.RowKit
set_option linter.unusedVariables false

set_option maxRecDepth 100000 in
set_option maxHeartbeats 3200000 in
theorem main_FnWrapped (w : World) (t : Int) (t0 : 0 ≤ t) (t1 : t ≤ 255) (a : Option Addr) (n c : Nat) (its : List It) (hn : its.length = n) (hi : ItsIn w w.heap.size a its) (hbd : bds its) (hc : n ≤ c) (hcm : c ≤ maxLen) (hz : n ≤ 2147483647) :
    Calls Try.prog 10 #[.int .i64 t, .slice a n c] w fun e w' => e = .returned (.bool true) ∧ Below w.heap.size w w' := by
  have T := Lib.hid (tagOk_yes t w t0 t1)
  have R := Lib.hid (right_any a n c its w hn (by unfold RB; omega) hbd hi)
  have Hn := Lib.hid hn
  have HI := Lib.hid hi
  have Hbd := Lib.hid hbd
  have HL := Lib.hid (fun (W : World) (hb : Below w.heap.size w W) => lit_its w W 11 t a n c its hn hi hc hcm hb)
  clear hn hi hbd
  go_enter Try.func10, Try.ntmps10
  go_wp2_with fail
  refine T.out.mono ?_
  rintro e w' ⟨rfl, rfl⟩
  go_wp2_with fail
  refine R.out.mono ?_
  rintro e w1 ⟨b, rfl, hb, F1⟩
  have b1 := F1.bel
  have Hb := Lib.hid hb
  clear hb F1
  cases b
  · go_wp2_with fail
    go_ret
    exact ⟨rfl, b1⟩
  · have HR := Lib.hid (Hb.out rfl)
    clear Hb
    obtain ⟨bL, iL⟩ := HL.out w1 b1
    have R2 := Lib.hid (right_any (some ⟨w1.heap.size, 0, none⟩) 1 1 [.mk 11 0 t [] [] its] _ rfl (by unfold RB; omega) (bds_one Hbd.out (by rw [Hn.out]; unfold RB; omega)) iL)
    have BL := Lib.hid bL
    clear bL iL
    go_wp2_with fail
    refine R2.out.mono ?_
    rintro e w2 ⟨b, rfl, hb, F2⟩
    have b2 := Lib.hid (bel_then BL.out F2.bel)
    have Hb := Lib.hid hb
    clear hb F2 BL
    cases b
    · go_wp2_with fail
      go_ret
      exact ⟨rfl, b2.out⟩
    · have HR2 := Lib.hid (Hb.out rfl)
      clear Hb
      have K := Lib.hid (takesBack_any (costs its + 1) a n c its w2 w2.heap.size (by omega) Hn.out (by unfold RB; omega) Hbd.out (HI.out.now b2.out))
      go_wp2_with fail
      refine K.out.mono ?_
      rintro e w3 ⟨b, rfl, hb, rfl⟩
      have Hb := Lib.hid hb
      clear hb
      cases b
      · have HT := Lib.hid (Hb.out rfl)
        clear Hb
        have hw := run_nw PB.new its HT.out rfl
        have B1 := Lib.hid (fun W (hb : Below w.heap.size w W) => buildSaid a n c its W Hn.out (HI.out.now hb) HR.out hw)
        have I1 := Lib.hid (buildB a n c its w2 Hn.out (HI.out.now b2.out) HR.out.1 (by have := HR.out.2; omega) hw)
        have hol := Lib.hid (show (runP PB.new its).out.length ≤ 204800 by have := run_len false 12 PB.new its HR.out.1; have := HR.out.2; have : PB.new.out.length = 0 := rfl; omega)
        have HA := Lib.hid (run_asn1 t its)
        obtain ⟨S, hS⟩ : ∃ S, S = runP PB.new its := ⟨_, rfl⟩
        rw [← hS] at B1 I1 HA hol hw
        have hwa : (runP PB.new [.mk 11 0 t [] [] its]).wrong = false := by
          rw [HA.out]
          have : (PB.new.absorb S).wrong = false := by simp only [PB.absorb, hw, PB.new, Bool.or_self]
          unfold PB.element
          split <;> exact this
        have I2 := Lib.hid (fun W (hb : Below w.heap.size w W) => buildB (some ⟨W.heap.size, 0, none⟩) 1 1 [.mk 11 0 t [] [] its] _ rfl (HL.out W hb).2 HR2.out.1 (by have := HR2.out.2; omega) hwa)
        rw [HA.out] at I2
        clear hS hw hwa HA
        go_wp2_with fail
        refine I1.out.mono ?_
        rintro e w4 ⟨a4, n4, c4, rfl, b4, l4, m4, x4, z4⟩
        have b4' := Lib.hid (bel_then b2.out b4)
        have X4 := Lib.hid x4
        have Z4 := Lib.hid z4
        clear b4 x4 z4
        go_wp2_with fail
        refine (I2.out w4 b4'.out).mono ?_
        rintro e w5 ⟨a5, n5, c5, rfl, b5, l5, m5, x5, _⟩
        have BL5 := Lib.hid b5
        have b5' := Lib.hid (bel_then (HL.out w4 b4'.out).1 b5)
        have X5 := Lib.hid x5
        clear b5 x5
        obtain ⟨Y, hY⟩ : ∃ Y, Y = (PB.new.absorb S).element t S.out := ⟨_, rfl⟩
        rw [← hY] at X5 ⊢
        have HY := Lib.hid hY
        clear hY
        by_cases ht : t % 32 = 31
        · have hYf : Y.failed = true := by rw [HY.out]; unfold PB.element; rw [if_pos ht]; rfl
          rw [hYf]
          have A := Lib.hid (iASN1_no w5 t a4 n4 c4 ht t0 t1)
          clear hYf ht
          go_wp2_with fail
          refine A.out.mono ?_
          rintro e w6 ⟨a6, c6, rfl, _, b6⟩
          have b6' := Lib.hid (bel_then b5'.out b6)
          clear b6
          go_wp2_with fail
          refine (B1.out w6 b6'.out).mono ?_
          rintro e w7 ⟨a7, n7, c7, rfl, b7, _⟩
          have b7' := Lib.hid (bel_then b6'.out b7)
          clear b7
          cases hf : S.failed
          all_goals (
            clear hf
            go_wp2
            go_ret
            exact ⟨rfl, b7'.out⟩)
        · cases hf : S.failed
          · obtain ⟨e4, y4⟩ := X4.out hf
            have hYe : Y = (PB.new.absorb S).put (derWrap t S.out) := by rw [HY.out]; unfold PB.element; rw [if_neg ht]
            have hYf : Y.failed = false := by rw [hYe]; simp only [PB.put, PB.absorb, hf, PB.new, Bool.or_self]
            have hYo : Y.out = derWrap t S.out := by rw [hYe]; simp [PB.put, PB.absorb, PB.new]
            obtain ⟨e5, y5⟩ := X5.out hYf
            rw [hYo] at y5 e5
            rw [hYf]
            have Y4 := ((y4.now (bel_alloc w4 _)).now BL5.out)
            have A := Lib.hid (iASN1 w5 t a4 n4 c4 S.out ht t0 t1 e4.symm Y4 (by rw [e4]; have := hol.out; omega))
            obtain ⟨X, hX⟩ : ∃ X, X = derWrap t S.out := ⟨_, rfl⟩
            unfold GotPost at A
            rw [← hX] at A y5 e5
            rw [← e5] at A
            have Y5 := Lib.hid y5
            have E5 := Lib.hid e5
            clear hYe hYf hYo ht e4 y4 y5 e5 Y4 hX X4 X5
            go_wp2_with fail
            refine A.out.mono ?_
            rintro e w6 ⟨a6, c6, rfl, _, _, y6, b6⟩
            have Y6 := Lib.hid y6
            have B6 := Lib.hid b6
            have b6' := Lib.hid (bel_then b5'.out b6)
            clear b6 y6
            go_wp2_with fail
            refine (B1.out w6 b6'.out).mono ?_
            rintro e w7 ⟨a7, n7, c7, rfl, b7, _⟩
            have b7' := Lib.hid (bel_then b6'.out b7)
            rw [hf]
            have E := Lib.hid (same_self a5 a6 n5 c5 c6 X w7 w7.heap.size E5.out.symm ((Y5.out.now B6.out).now b7) (Y6.out.now b7))
            clear b7 hf
            go_wp2_with fail
            refine E.out.mono ?_
            rintro e w8 ⟨rfl, rfl⟩
            go_wp2
            go_ret
            exact ⟨rfl, b7'.out⟩
          · obtain rfl := Z4.out hf
            have hYf : Y.failed = true := by rw [HY.out]; unfold PB.element; rw [if_neg ht]; simp only [PB.put, PB.absorb, hf, PB.new, Bool.false_or]
            rw [hYf]
            have A := Lib.hid (iASN1 w5 t a4 0 c4 [] ht t0 t1 rfl (BIn.nil _ _ _) (by omega))
            clear hYf ht
            go_wp2_with fail
            refine A.out.mono ?_
            rintro e w6 ⟨a6, c6, rfl, _, _, _, b6⟩
            have b6' := Lib.hid (bel_then b5'.out b6)
            clear b6
            go_wp2_with fail
            refine (B1.out w6 b6'.out).mono ?_
            rintro e w7 ⟨a7, n7, c7, rfl, b7, _⟩
            have b7' := Lib.hid (bel_then b6'.out b7)
            rw [hf]
            clear b7 hf
            go_wp2
            go_ret
            exact ⟨rfl, b7'.out⟩
      · go_wp2_with fail
        go_ret
        exact ⟨rfl, b2.out⟩

theorem walk_FnWrapped (w : World) (t : Int) (wt : (Lit.int .i64 t).wf = true) (a : Option Addr) (n c : Nat) (its : List It) (hn : its.length = n) (hi : ItsIn w w.heap.size a its) (hbd : bds its) (hc : n ≤ c) (hcm : c ≤ maxLen) :
    Calls Try.prog 10 #[.int .i64 t, .slice a n c] w fun e w' => e = .returned (.bool true) ∧ Below w.heap.size w w' := by
  by_cases hz : n ≤ 2147483647
  · by_cases ht : 0 ≤ t ∧ t ≤ 255
    · exact main_FnWrapped w t ht.1 ht.2 a n c its hn hi hbd hc hcm hz
    · have T := Lib.hid (tagOk_no t w (by omega))
      clear hn hi hbd ht wt
      go_enter Try.func10, Try.ntmps10
      go_wp2_with fail
      refine T.out.mono ?_
      rintro e w' ⟨rfl, rfl⟩
      go_wp2
      go_ret
      exact ⟨rfl, Below.refl _ _⟩
  · clear hn hi hbd wt
    go_enter Try.func10, Try.ntmps10
    go_wp2
    go_ret
    exact ⟨rfl, Below.refl _ _⟩
end Go.Proofs.Ytdnepnnkpaoaaaa
