/- The walk of laws.FnExactSkipASN1. -/
import Derived.Test.YtcimjejbakgadaaLawDer
import Derived.Test.YtcimjejbakgadaaDerSkip
namespace Go.Proofs.Ytcimjejbakgadaa
open Go.RowKit
set_option linter.unusedVariables false

set_option maxRecDepth 100000 in
set_option maxHeartbeats 1600000 in
theorem main_FnExactSkipASN1 (w : World) (a : Option Addr) (n c : Nat) (xs : List Int) (hn : xs.length = n) (hb : BIn w w.heap.size a xs) (hx : Byt xs) (hc : n ≤ c) (hm : c ≤ maxLen) (h0 : n ≤ 1048576) (t : Int) (t0 : 0 ≤ t) (t1 : t ≤ 255) :
    Calls Try.prog 15 #[.slice a n c, .int .i64 t] w fun e w' => e = .returned (.bool true) ∧ Below w.heap.size w w' := by
  have T := Lib.hid (tagOk_yes t w t0 t1)
  have K := Lib.hid (iSkipASN1_any a n c xs t w hn hb hx (by omega) t0 t1)
  have G := Lib.hid (fun W (hB : Below w.heap.size w W) => firstOf_any a n c xs t w.heap.size W hn hc hm (hb.below hB) hB.size hx (by omega))
  cases hf : firstOf xs t with
  | none =>
    have Hf := Lib.hid hf
    clear hn hb hx hf t0 t1
    go_enter Try.func15, Try.ntmps15
    go_wp2_with fail
    refine T.out.mono ?_
    rintro e w' ⟨rfl, rfl⟩
    go_wp2_with fail
    refine (fits_any a n c _ h0).mono ?_
    rintro e w' ⟨rfl, rfl⟩
    go_wp2_with fail
    refine K.out.mono ?_
    intro e w1 hq
    unfold OneOf at hq
    rw [Hf.out] at hq
    obtain ⟨v3, rfl, p1⟩ := hq
    go_wp2_with fail
    refine (G.out w1 p1).mono ?_
    intro e w2 hp
    obtain ⟨p2, hp⟩ := hp
    rw [Hf.out] at hp
    simp only at hp
    subst hp
    go_wp2
    go_ret
    exact ⟨rfl, p1.trans (p2.mono p1.size)⟩
  | some v =>
    obtain ⟨out, rest⟩ := v
    have Hf := Lib.hid hf
    have Hr := Lib.hid (show Byt rest by obtain ⟨b, k, _, _, hr, _⟩ := firstOf_inv hf; rw [hr]; exact hx.drop _)
    clear hn hb hx hf t0 t1
    go_enter Try.func15, Try.ntmps15
    go_wp2_with fail
    refine T.out.mono ?_
    rintro e w' ⟨rfl, rfl⟩
    go_wp2_with fail
    refine (fits_any a n c _ h0).mono ?_
    rintro e w' ⟨rfl, rfl⟩
    go_wp2_with fail
    refine K.out.mono ?_
    intro e w1 hq
    unfold OneOf at hq
    rw [Hf.out] at hq
    obtain ⟨a3, c3, rfl, r1, r2, r3, p1⟩ := hq
    go_wp2_with fail
    refine (G.out w1 p1).mono ?_
    intro e w2 hp
    obtain ⟨p2, hp⟩ := hp
    rw [Hf.out] at hp
    obtain ⟨a4, c4, a5, c5, rfl, _, _, s1, s2, s3, s4⟩ := hp
    have p12 := p1.trans (p2.mono p1.size)
    have z1 : BIn w2 w2.heap.size a3 rest := (r3.below p2).lt
    go_wp2_with fail
    refine (same_any a3 a5 rest.length c3 rest.length c5 rest rest w2 w2.heap.size rfl rfl z1 s4.lt Hr.out Hr.out).mono ?_
    rintro e w4 ⟨rfl, rfl⟩
    go_wp2
    go_ret
    exact ⟨ret_bool (by simp), p12⟩

-- PRE (printed by gen_pre.py of this folder)
set_option maxRecDepth 100000 in
set_option maxHeartbeats 800000 in
theorem walk_FnExactSkipASN1 (w : World) (a : Option Addr) (n c : Nat) (xs : List Int) (hn : xs.length = n) (hb : BIn w w.heap.size a xs) (hx : Byt xs) (hc : n ≤ c) (hm : c ≤ maxLen) (t : Int) (wt : (Lit.int .i64 t).wf = true) :
    Calls Try.prog 15 #[.slice a n c, .int .i64 t] w fun e w' => e = .returned (.bool true) ∧ Below w.heap.size w w' := by
  by_cases ht : 0 ≤ t ∧ t ≤ 255
  · by_cases h0 : n ≤ 1048576
    · exact main_FnExactSkipASN1 w a n c xs hn hb hx hc hm h0 t ht.1 ht.2
    · by_cases hz : n ≤ 2147483647
      · have T := Lib.hid (tagOk_yes t w ht.1 ht.2)
        clear ht wt
        go_enter Try.func15, Try.ntmps15
        go_wp2_with fail
        refine T.out.mono ?_
        rintro e w' ⟨rfl, rfl⟩
        go_wp2_with fail
        refine (fits_no a n c _ (by omega)).mono ?_
        rintro e w' ⟨rfl, rfl⟩
        go_wp2
        go_ret
        exact ⟨rfl, Below.refl _ _⟩
      · clear ht wt
        go_enter Try.func15, Try.ntmps15
        go_wp2
        go_ret
        exact ⟨rfl, Below.refl _ _⟩
  · by_cases hz : n ≤ 2147483647
    · have T := Lib.hid (tagOk_no t w (by omega))
      clear ht wt
      go_enter Try.func15, Try.ntmps15
      go_wp2_with fail
      refine T.out.mono ?_
      rintro e w' ⟨rfl, rfl⟩
      go_wp2
      go_ret
      exact ⟨rfl, Below.refl _ _⟩
    · clear ht wt
      go_enter Try.func15, Try.ntmps15
      go_wp2
      go_ret
      exact ⟨rfl, Below.refl _ _⟩
end Go.Proofs.Ytcimjejbakgadaa
