/- The walk of laws.FnErrorKept. -/
import Derived.Test.YtdnepnnkpaoaaaaWLaw
import Derived.Test.YtdnepnnkpaoaaaaOwnI
namespace Go.Proofs.Ytdnepnnkpaoaaaa
open Go.RowKit
set_option linter.unusedVariables false

theorem okIs_append {ins : Bool} {d : Nat} : ∀ {xs ys : List It}, okIs ins d xs = true → okIs ins d ys = true → okIs ins d (xs ++ ys) = true
  | [], ys, _, h => h
  | x :: xs, ys, h, k => by
    unfold okIs at h
    rw [Bool.and_eq_true] at h
    rw [List.cons_append]
    unfold okIs
    rw [Bool.and_eq_true]
    exact ⟨h.1, okIs_append h.2 k⟩
theorem noTBs_append : ∀ {xs ys : List It}, noTBs xs = true → noTBs ys = true → noTBs (xs ++ ys) = true
  | [], ys, _, h => h
  | x :: xs, ys, h, k => by
    unfold noTBs at h
    rw [Bool.and_eq_true] at h
    rw [List.cons_append]
    unfold noTBs
    rw [Bool.and_eq_true]
    exact ⟨h.1, noTBs_append h.2 k⟩
theorem costs_append : ∀ (xs ys : List It), costs (xs ++ ys) = costs xs + costs ys
  | [], ys => by simp [costs]
  | x :: xs, ys => by
    simp only [List.cons_append, costs, costs_append xs ys]
    omega
/-- The step that sets an error. -/
abbrev failIt : It := .mk 21 0 0 [] [] []
theorem fail_ok : okIs false 12 [failIt] = true := by decide
theorem fail_cost : costs [failIt] = 16 := by simp [costs, It.cost]
theorem fail_noTB : noTBs [failIt] = true := by decide
theorem run_fail (s : PB) (h : s.wrong = false) (its : List It) : (runP s (failIt :: its)).failed = true := by
  cases hf : s.failed
  · rw [run_cons hf h]
    have e : stepP s failIt = s.fail := by simp [stepP]
    rw [e, run_failed _ _ rfl]
    rfl
  · rw [run_failed _ _ hf]; exact hf
theorem run_kept {its mor : List It} (h1 : noTBs its = true) (h2 : noTBs mor = true) : (runP PB.new (its ++ [failIt] ++ mor)).failed = true ∧ (runP PB.new (its ++ [failIt] ++ mor)).wrong = false := by
  refine ⟨?_, run_nw _ _ (noTBs_append (noTBs_append h1 fail_noTB) h2) rfl⟩
  rw [List.append_assoc, run_append]
  exact run_fail _ (run_nw _ _ h1 rfl) _

set_option maxRecDepth 100000 in
set_option maxHeartbeats 3200000 in
theorem main_FnErrorKept (w : World) (a : Option Addr) (n c : Nat) (its : List It) (hn : its.length = n) (hi : ItsIn w w.heap.size a its) (hbd : bds its) (A : Option Addr) (m C : Nat) (mor : List It) (hm : mor.length = m) (hj : ItsIn w w.heap.size A mor) (hbd2 : bds mor) (hz : n ≤ 2147483647) (hz2 : m ≤ 2147483647) :
    Calls Try.prog 7 #[.slice a n c, .slice A m C] w fun e w' => e = .returned (.bool true) ∧ Below w.heap.size w w' := by
  have R := Lib.hid (right_any a n c its w hn (by unfold RB; omega) hbd hi)
  have R2 := Lib.hid (fun W (hb : Below w.heap.size w W) => right_any A m C mor W hm (by unfold RB; omega) hbd2 (hj.now hb))
  have Hn := Lib.hid hn
  have HI := Lib.hid hi
  have Hbd := Lib.hid hbd
  have Hm := Lib.hid hm
  have HJ := Lib.hid hj
  have Hbd2 := Lib.hid hbd2
  clear hn hi hbd hm hj hbd2
  go_enter Try.func7, Try.ntmps7
  go_wp2_with fail
  refine R.out.mono ?_
  rintro e w1 ⟨b, rfl, hb, F1⟩
  have b1 := Lib.hid F1.bel
  have Hb := Lib.hid hb
  clear hb F1
  cases b
  · go_wp2_with fail
    go_ret
    exact ⟨rfl, b1.out⟩
  · have HR := Lib.hid (Hb.out rfl)
    clear Hb
    go_wp2_with fail
    refine (R2.out w1 b1.out).mono ?_
    rintro e w2 ⟨b, rfl, hb, F2⟩
    have b2 := Lib.hid (bel_then b1.out F2.bel)
    have Hb := Lib.hid hb
    clear hb F2
    cases b
    · go_wp2_with fail
      go_ret
      exact ⟨rfl, b2.out⟩
    · have HR2 := Lib.hid (Hb.out rfl)
      clear Hb
      have K := Lib.hid (takesBack_any (costs its + 1) a n c its w2 w2.heap.size (by omega) Hn.out (by unfold RB; omega) Hbd.out (HI.out.now b2.out))
      go_wp2_with fail
      refine K.out.mono ?_
      rintro e w3 ⟨b, rfl, hb, rfl⟩
      have Hb := Lib.hid hb
      clear hb
      cases b
      · have HT := Lib.hid (Hb.out rfl)
        clear Hb K
        have K := Lib.hid (takesBack_any (costs mor + 1) A m C mor w2 w2.heap.size (by omega) Hm.out (by unfold RB; omega) Hbd2.out (HJ.out.now b2.out))
        go_wp2_with fail
        refine K.out.mono ?_
        rintro e w3 ⟨b, rfl, hb, rfl⟩
        have Hb := Lib.hid hb
        clear hb
        cases b
        · have HT2 := Lib.hid (Hb.out rfl)
          clear Hb K
          obtain ⟨i0, z0, hi0, hz0, hz1, hz2, hz3⟩ := item_parts
          have BA := Lib.hid (bel_then b2.out (bel_alloc w2 (.cells #[] 45)))
          have O0 := Lib.hid (show (w2.alloc (.cells #[] 45)).ownsRow w.heap.size 45 6 (.slice (some ⟨w2.heap.size, 0, none⟩) 0 0) 0 [] from World.ownsRow_made w2 #[] 0 b2.out.size (by simp [maxLen]) rfl)
          obtain ⟨cs, k1, k2⟩ := (HI.out.below BA.out).cells
          have K1 := Lib.hid k1
          have S1 := Lib.hid (show 0 < n → ∃ bb o, a = some ⟨bb, o, none⟩ ∧ ∀ (j : Nat) u, cs[j]? = some u → (w2.alloc (.cells #[] 45)).cell? ⟨bb, o + j, none⟩ = some u from fun h => by
            obtain ⟨b, o, h1, _, h2⟩ := k2 (by rw [Hn.out]; exact h)
            exact ⟨b, o, h1, h2⟩)
          have Hl1 := Lib.hid (show cs.length = n * 6 by rw [k1.len, Hn.out])
          have hb1' := Lib.hid (show (0 + n) * 96 ≤ 140737488355328 by omega)
          have hm1' := Lib.hid (show 0 + n ≤ maxLen by simp only [maxLen]; omega)
          clear k1 k2
          go_wp2_with (at_builtin; refine wpList_append_row _ rfl (.tmp 37) (.tmp 38) _ rfl w.heap.size 45 i0 z0 6 96 Try.underlying23 hi0 hz0 hz1 hz2 hz3 (by omega) (.slice (some ⟨w2.heap.size, 0, none⟩) 0 0) 0 [] rfl O0.out a n c cs rfl Hl1.out S1.out K1.out.one hm1'.out hb1'.out BA.out.size ?_)
          intro A1 c1 u1 own1 hg1 hat1
          obtain ⟨bu1, ku1⟩ := row_step (its := []) BA.out O0.out rfl K1.out hg1
          replace ku1 : ItCs u1 w.heap.size its cs := by simpa using ku1
          replace own1 : u1.ownsRow w.heap.size 45 6 (.slice A1 n c1) n cs := by simpa using own1
          have BU1 := Lib.hid (bel_then bu1 (bel_alloc u1 (.cells #[.int .i64 21, .int .i64 0, .int .i64 0, .slice none 0 0, .slice none 0 0, .slice none 0 0] 45)))
          have O1 := Lib.hid (World.ownsRow.alloc own1 (.cells #[.int .i64 21, .int .i64 0, .int .i64 0, .slice none 0 0, .slice none 0 0, .slice none 0 0] 45))
          have KU1 := Lib.hid (ku1.keep (fun p hp => ((Fr.refl [] u1).alloc (.cells #[.int .i64 21, .int .i64 0, .int .i64 0, .slice none 0 0, .slice none 0 0, .slice none 0 0] 45)).cells (B := w.heap.size) bu1.size (by simp) p hp))
          have KF := Lib.hid (show ItCs (u1.alloc (.cells #[.int .i64 21, .int .i64 0, .int .i64 0, .slice none 0 0, .slice none 0 0, .slice none 0 0] 45)) w.heap.size [failIt] [.int .i64 21, .int .i64 0, .int .i64 0, .slice none 0 0, .slice none 0 0, .slice none 0 0] from
            ItCs.single ⟨by omega, none, 0, none, 0, none, 0, rfl, ⟨Nat.le_refl _, by simp [maxLen], BIn.nil _ _ _, Byt.nil⟩, ⟨Nat.le_refl _, by simp [maxLen], IIn.nil _ _ _⟩, ⟨Nat.le_refl _, by simp [maxLen], .inl rfl⟩⟩)
          have S2 := Lib.hid (show 0 < 1 → ∃ bb o, (some ⟨u1.heap.size, 0, none⟩ : Option Addr) = some ⟨bb, o, none⟩ ∧ ∀ (j : Nat) u, ([.int .i64 21, .int .i64 0, .int .i64 0, .slice none 0 0, .slice none 0 0, .slice none 0 0] : List Value)[j]? = some u → (u1.alloc (.cells #[.int .i64 21, .int .i64 0, .int .i64 0, .slice none 0 0, .slice none 0 0, .slice none 0 0] 45)).cell? ⟨bb, o + j, none⟩ = some u from fun _ =>
            ⟨u1.heap.size, 0, rfl, fun j u hu => by rw [Nat.zero_add, (Blk.new u1 45 _).cell j]; simpa using hu⟩)
          have hb2' := Lib.hid (show (n + 1) * 96 ≤ 140737488355328 by omega)
          have hm2' := Lib.hid (show n + 1 ≤ maxLen by simp only [maxLen]; omega)
          clear own1 hg1 hat1 bu1 ku1 K1 S1 Hl1 O0 BA hb1' hm1'
          go_wp2_with (at_builtin; refine wpList_append_row _ rfl (.tmp 39) (.tmp 41) _ rfl w.heap.size 45 i0 z0 6 96 Try.underlying23 hi0 hz0 hz1 hz2 hz3 (by omega) (.slice A1 n c1) n cs rfl O1.out (some ⟨u1.heap.size, 0, none⟩) 1 1 _ rfl rfl S2.out KF.out.one hm2'.out hb2'.out BU1.out.size ?_)
          intro A2 c2 u2 own2 hg2 hat2
          obtain ⟨bu2, ku2⟩ := row_step BU1.out O1.out KU1.out KF.out hg2
          have BU2 := Lib.hid bu2
          have O2 := Lib.hid own2
          have KU2 := Lib.hid ku2
          clear own2 hg2 hat2 bu2 ku2 O1 KU1 KF S2 BU1 hb2' hm2'
          obtain ⟨ds, k1, k2⟩ := (HJ.out.below BU2.out).cells
          have K3 := Lib.hid k1
          have S3 := Lib.hid (show 0 < m → ∃ bb o, A = some ⟨bb, o, none⟩ ∧ ∀ (j : Nat) u, ds[j]? = some u → u2.cell? ⟨bb, o + j, none⟩ = some u from fun h => by
            obtain ⟨b, o, h1, _, h2⟩ := k2 (by rw [Hm.out]; exact h)
            exact ⟨b, o, h1, h2⟩)
          have Hl3 := Lib.hid (show ds.length = m * 6 by rw [k1.len, Hm.out])
          have hb3' := Lib.hid (show (n + 1 + m) * 96 ≤ 140737488355328 by omega)
          have hm3' := Lib.hid (show n + 1 + m ≤ maxLen by simp only [maxLen]; omega)
          clear k1 k2
          go_wp2_with (at_builtin; refine wpList_append_row _ rfl (.tmp 42) (.tmp 43) _ rfl w.heap.size 45 i0 z0 6 96 Try.underlying23 hi0 hz0 hz1 hz2 hz3 (by omega) (.slice A2 (n + 1) c2) (n + 1) _ rfl O2.out A m C ds rfl Hl3.out S3.out K3.out.one hm3'.out hb3'.out BU2.out.size ?_)
          intro A3 c3 u3 own3 hg3 hat3
          obtain ⟨bu3, ku3⟩ := row_step BU2.out O2.out KU2.out K3.out hg3
          have hlen : (its ++ [failIt] ++ mor).length = n + 1 + m := by rw [List.length_append, List.length_append, Hn.out, Hm.out]; rfl
          have I3 := row_its (its := its ++ [failIt] ++ mor) (by rw [hlen]; simpa using own3) ku3 bu3.size
          obtain ⟨rk1, rk2⟩ := run_kept HT.out HT2.out
          have BB := Lib.hid (buildB A3 (n + 1 + m) c3 (its ++ [failIt] ++ mor) u3 hlen I3 (okIs_append (okIs_append HR.out.1 fail_ok) HR2.out.1) (by rw [costs_append, costs_append]; have := HR.out.2; have := HR2.out.2; have := fail_cost; omega) rk2)
          have BU3 := Lib.hid bu3
          have hw := run_nw PB.new its HT.out rfl
          have B1 := Lib.hid (fun W (hb : Below w.heap.size w W) => buildSaid a n c its W Hn.out (HI.out.now hb) HR.out hw)
          have I1 := Lib.hid (fun W (hb : Below w.heap.size w W) => buildB a n c its W Hn.out (HI.out.now hb) HR.out.1 (by have := HR.out.2; omega) hw)
          obtain ⟨S, hS⟩ : ∃ S, S = runP PB.new its := ⟨_, rfl⟩
          rw [← hS] at B1 I1
          obtain ⟨X, hX⟩ : ∃ X, X = runP PB.new (its ++ [failIt] ++ mor) := ⟨_, rfl⟩
          rw [← hX] at BB rk1
          have HX := Lib.hid rk1
          clear own3 hg3 hat3 bu3 ku3 O2 KU2 K3 S3 BU2 hb3' hm3' Hl3 hlen I3 rk1 rk2 hw hS hX
          go_wp2_with fail
          refine BB.out.mono ?_
          rintro e w4 ⟨a4, n4, c4, rfl, b4, _⟩
          have b4' := Lib.hid (bel_then BU3.out b4)
          rw [HX.out]
          clear b4
          go_wp2_with fail
          refine (I1.out w4 b4'.out).mono ?_
          rintro e w5 ⟨a5, n5, c5, rfl, b5, _⟩
          have b5' := Lib.hid (bel_then b4'.out b5)
          clear b5
          go_wp2_with fail
          refine (B1.out w5 b5'.out).mono ?_
          rintro e w6 ⟨a6, n6, c6, rfl, b6, _⟩
          have b6' := Lib.hid (bel_then b5'.out b6)
          clear b6
          cases hf : S.failed
          all_goals (
            clear hf
            go_wp2
            go_ret
            exact ⟨rfl, b6'.out⟩)
        · go_wp2_with fail
          go_ret
          exact ⟨rfl, b2.out⟩
      · go_wp2_with fail
        go_ret
        exact ⟨rfl, b2.out⟩

theorem walk_FnErrorKept (w : World) (a : Option Addr) (n c : Nat) (its : List It) (hn : its.length = n) (hi : ItsIn w w.heap.size a its) (hbd : bds its) (hc : n ≤ c) (hcm : c ≤ maxLen) (A : Option Addr) (m C : Nat) (mor : List It) (hm : mor.length = m) (hj : ItsIn w w.heap.size A mor) (hbd2 : bds mor) (hc2 : m ≤ C) (hcm2 : C ≤ maxLen) :
    Calls Try.prog 7 #[.slice a n c, .slice A m C] w fun e w' => e = .returned (.bool true) ∧ Below w.heap.size w w' := by
  by_cases hz : n ≤ 2147483647
  · by_cases hz2 : m ≤ 2147483647
    · exact main_FnErrorKept w a n c its hn hi hbd A m C mor hm hj hbd2 hz hz2
    · clear hn hi hbd hm hj hbd2
      go_enter Try.func7, Try.ntmps7
      go_wp2
      go_ret
      exact ⟨rfl, Below.refl _ _⟩
  · clear hn hi hbd hm hj hbd2
    go_enter Try.func7, Try.ntmps7
    go_wp2
    go_ret
    exact ⟨rfl, Below.refl _ _⟩
end Go.Proofs.Ytdnepnnkpaoaaaa
