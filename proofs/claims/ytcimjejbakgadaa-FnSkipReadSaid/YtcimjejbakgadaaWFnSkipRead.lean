/- The walk of laws.FnSkipRead. -/
import Derived.Test.YtcimjejbakgadaaLawDer
import Derived.Test.YtcimjejbakgadaaDerSkip
namespace Go.Proofs.Ytcimjejbakgadaa
open Go.RowKit
set_option linter.unusedVariables false

set_option maxRecDepth 100000 in
set_option maxHeartbeats 800000 in
theorem main_FnSkipRead (w : World) (a : Option Addr) (n c : Nat) (xs : List Int) (hn : xs.length = n) (hb : BIn w w.heap.size a xs) (hx : Byt xs) (hc : n ≤ c) (hm : c ≤ maxLen) (h0 : n ≤ 1048576) (t : Int) (t0 : 0 ≤ t) (t1 : t ≤ 255) :
    Calls Try.prog 18 #[.slice a n c, .int .i64 t] w fun e w' => e = .returned (.bool true) ∧ Below w.heap.size w w' := by
  have T := Lib.hid (tagOk_yes t w t0 t1)
  have R := Lib.hid (iReadASN1_any a n c xs t w hn hb hx (by omega) t0 t1)
  have K := Lib.hid (fun W (hB : Below w.heap.size w W) => iSkipASN1_any a n c xs t W hn ((hb.below hB).more hB.size) hx (by omega) t0 t1)
  have G := Lib.hid (fun W (hB : Below w.heap.size w W) => tagged_any a n c xs t w.heap.size W hn hc hm (hb.below hB) hB.size hx (by omega))
  cases hf : firstOf xs t with
  | none =>
    have Hf := Lib.hid hf
    clear hn hb hx hf t0 t1
    go_enter Try.func18, Try.ntmps18
    go_wp2_with fail
    refine T.out.mono ?_
    rintro e w' ⟨rfl, rfl⟩
    go_wp2_with fail
    refine (fits_any a n c _ h0).mono ?_
    rintro e w' ⟨rfl, rfl⟩
    go_wp2_with fail
    refine R.out.mono ?_
    intro e w1 hp
    unfold TwoOf at hp
    rw [Hf.out] at hp
    obtain ⟨v1, v2, rfl, p1⟩ := hp
    go_wp2_with fail
    refine (K.out w1 p1).mono ?_
    intro e w2 hq
    unfold OneOf at hq
    rw [Hf.out] at hq
    obtain ⟨v3, rfl, p2⟩ := hq
    have p12 := p1.trans (p2.mono p1.size)
    go_wp2_with fail
    refine (G.out w2 p12).mono ?_
    rw [Hf.out]
    rintro e w3 ⟨rfl, p3⟩
    go_wp2
    go_ret
    exact ⟨rfl, p12.trans (p3.mono p12.size)⟩
  | some v =>
    obtain ⟨out, rest⟩ := v
    have Hf := Lib.hid hf
    have Hr := Lib.hid (show Byt rest by obtain ⟨b, k, _, _, hr, _⟩ := firstOf_inv hf; rw [hr]; exact hx.drop _)
    clear hn hb hx hf t0 t1
    go_enter Try.func18, Try.ntmps18
    go_wp2_with fail
    refine T.out.mono ?_
    rintro e w' ⟨rfl, rfl⟩
    go_wp2_with fail
    refine (fits_any a n c _ h0).mono ?_
    rintro e w' ⟨rfl, rfl⟩
    go_wp2_with fail
    refine R.out.mono ?_
    intro e w1 hp
    unfold TwoOf at hp
    rw [Hf.out] at hp
    obtain ⟨a1, c1, a2, c2, rfl, _, _, q1, q2, q3, q4, p1⟩ := hp
    go_wp2_with fail
    refine (K.out w1 p1).mono ?_
    intro e w2 hq
    unfold OneOf at hq
    rw [Hf.out] at hq
    obtain ⟨a3, c3, rfl, r1, r2, r3, p2⟩ := hq
    have p12 := p1.trans (p2.mono p1.size)
    go_wp2_with fail
    refine (G.out w2 p12).mono ?_
    rw [Hf.out]
    rintro e w3 ⟨rfl, p3⟩
    have p13 := p12.trans (p3.mono p12.size)
    have z1 : BIn w3 w3.heap.size a2 rest := (((q4.below p2).lt).below p3).lt
    have z2 : BIn w3 w3.heap.size a3 rest := (r3.below p3).lt
    go_wp2_with fail
    refine (same_any a2 a3 rest.length c2 rest.length c3 rest rest w3 w3.heap.size rfl rfl z1 z2 Hr.out Hr.out).mono ?_
    rintro e w4 ⟨rfl, rfl⟩
    go_wp2
    go_ret
    exact ⟨ret_bool (by simp), p13⟩

-- PRE (printed by gen_pre.py of this folder)
set_option maxRecDepth 100000 in
set_option maxHeartbeats 800000 in
theorem walk_FnSkipRead (w : World) (a : Option Addr) (n c : Nat) (xs : List Int) (hn : xs.length = n) (hb : BIn w w.heap.size a xs) (hx : Byt xs) (hc : n ≤ c) (hm : c ≤ maxLen) (t : Int) (wt : (Lit.int .i64 t).wf = true) :
    Calls Try.prog 18 #[.slice a n c, .int .i64 t] w fun e w' => e = .returned (.bool true) ∧ Below w.heap.size w w' := by
  by_cases ht : 0 ≤ t ∧ t ≤ 255
  · by_cases h0 : n ≤ 1048576
    · exact main_FnSkipRead w a n c xs hn hb hx hc hm h0 t ht.1 ht.2
    · by_cases hz : n ≤ 2147483647
      · have T := Lib.hid (tagOk_yes t w ht.1 ht.2)
        clear ht wt
        go_enter Try.func18, Try.ntmps18
        go_wp2_with fail
        refine T.out.mono ?_
        rintro e w' ⟨rfl, rfl⟩
        go_wp2_with fail
        refine (fits_no a n c _ (by omega)).mono ?_
        rintro e w' ⟨rfl, rfl⟩
        go_wp2
        go_ret
        exact ⟨rfl, Below.refl _ _⟩
      · clear ht wt
        go_enter Try.func18, Try.ntmps18
        go_wp2
        go_ret
        exact ⟨rfl, Below.refl _ _⟩
  · by_cases hz : n ≤ 2147483647
    · have T := Lib.hid (tagOk_no t w (by omega))
      clear ht wt
      go_enter Try.func18, Try.ntmps18
      go_wp2_with fail
      refine T.out.mono ?_
      rintro e w' ⟨rfl, rfl⟩
      go_wp2
      go_ret
      exact ⟨rfl, Below.refl _ _⟩
    · clear ht wt
      go_enter Try.func18, Try.ntmps18
      go_wp2
      go_ret
      exact ⟨rfl, Below.refl _ _⟩
end Go.Proofs.Ytcimjejbakgadaa
