/- The walk of laws.FnTreeAgain. -/
import Derived.Test.YtdnepnnkpaoaaaaReadT
namespace Go.Proofs.Ytdnepnnkpaoaaaa
open Go.RowKit
set_option linter.unusedVariables false

set_option maxRecDepth 100000 in
set_option maxHeartbeats 1600000 in
theorem main_FnTreeAgain (w : World) (a : Option Addr) (n c : Nat) (xs : List Int) (hn : xs.length = n) (hb : BIn w w.heap.size a xs) (hx : Byt xs) (hc : n ≤ c) (hm : c ≤ maxLen) (hl : n ≤ 100000) :
    Calls Try.prog 5 #[.slice a n c] w fun e w' => e = .returned (.bool true) ∧ Below w.heap.size w w' := by
  have K := Lib.hid (readTrees_any (n + 1) a n c 30 xs w (by omega) hn hc hm hb hx hl (by omega))
  have T := Lib.hid (fun W (h : Below w.heap.size w W) => trees_any (n + 1) a n c 30 xs W (by omega) hn hc hm (hb.now h) hx (by omega) (by omega))
  have Hn := Lib.hid hn
  have HB := Lib.hid hb
  have Hx := Lib.hid hx
  cases ht : tr 30 xs with
  | none =>
    rw [ht] at K T
    clear hn hb hx ht
    go_enter Try.func5, Try.ntmps5
    go_wp2_with fail
    refine K.out.mono ?_
    rintro e w1 ⟨b1, rfl⟩
    have B1 := Lib.hid b1
    clear b1
    go_wp2_with fail
    refine (T.out w1 B1.out).mono ?_
    rintro e w2 ⟨rfl, b2⟩
    have B2 := Lib.hid (bel_then B1.out b2)
    clear b2
    go_wp2_with fail
    refine (T.out w2 B2.out).mono ?_
    rintro e w3 ⟨rfl, b3⟩
    have B3 := Lib.hid (bel_then B2.out b3)
    clear b3
    go_wp2
    go_ret
    exact ⟨rfl, B3.out⟩
  | some its =>
    obtain ⟨r1, r2, r3, r4⟩ := tr_facts (n + 1) xs 30 its (by omega) hx (by omega) ht
    obtain ⟨q1, q2, q3⟩ := r4 PB.new rfl rfl
    have q1' : (runP PB.new its).out = xs := by rw [q1]; rfl
    have I := Lib.hid (fun (a1 : Option Addr) (c1 : Nat) (W : World) (h : ItsIn W W.heap.size a1 its) => (iBuild a1 its.length c1 its W rfl h 31 (by omega) (r1 false) q3 (by unfold Mx; omega)).mono fun e w' (hh : BuiltP W (runP PB.new its) e w') => (show GotPost W xs e w' by unfold BuiltP at hh; rw [q2, q1'] at hh; simpa using hh))
    rw [ht] at K T
    clear hn hb hx ht r1 r2 r3 r4 q1 q2 q3 q1'
    obtain ⟨ni, hni⟩ : ∃ ni, ni = its.length := ⟨_, rfl⟩
    rw [← hni] at I
    have Hni := Lib.hid hni
    clear hni
    go_enter Try.func5, Try.ntmps5
    go_wp2_with fail
    refine K.out.mono ?_
    rintro e w1 ⟨b1, a1, c1, rfl, l1, m1, s1⟩
    rw [← Hni.out]
    have B1 := Lib.hid b1
    have S1 := Lib.hid s1
    clear b1 s1 l1 m1
    go_wp2_with fail
    refine (T.out w1 B1.out).mono ?_
    rintro e w2 ⟨rfl, b2⟩
    have X := Lib.hid (I.out a1 c1 w2 (S1.out [] w2 (by simp) (Fr.of_below b2 [])))
    have B2 := Lib.hid (bel_then B1.out b2)
    unfold GotPost at X
    rw [Hn.out] at X
    clear b2
    go_wp2_with fail
    refine X.out.mono ?_
    rintro e w3 ⟨a3, c3, rfl, _, _, y3, b3⟩
    have B3 := Lib.hid (bel_then B2.out b3)
    have E := Lib.hid (same_self a3 a n c3 c xs w3 w3.heap.size Hn.out y3 (HB.out.now B3.out))
    clear b3 y3
    go_wp2_with fail
    refine E.out.mono ?_
    rintro e w4 ⟨rfl, rfl⟩
    go_wp2
    go_ret
    exact ⟨rfl, B3.out⟩

theorem walk_FnTreeAgain (w : World) (a : Option Addr) (n c : Nat) (xs : List Int) (hn : xs.length = n) (hb : BIn w w.heap.size a xs) (hx : Byt xs) (hc : n ≤ c) (hm : c ≤ maxLen) :
    Calls Try.prog 5 #[.slice a n c] w fun e w' => e = .returned (.bool true) ∧ Below w.heap.size w w' := by
  by_cases hl : n ≤ 100000
  · exact main_FnTreeAgain w a n c xs hn hb hx hc hm hl
  · clear hn hb hx
    by_cases hz : n ≤ 2147483647
    · go_enter Try.func5, Try.ntmps5
      go_wp2
      go_ret
      exact ⟨rfl, Below.refl _ _⟩
    · go_enter Try.func5, Try.ntmps5
      go_wp2
      go_ret
      exact ⟨rfl, Below.refl _ _⟩
end Go.Proofs.Ytdnepnnkpaoaaaa
