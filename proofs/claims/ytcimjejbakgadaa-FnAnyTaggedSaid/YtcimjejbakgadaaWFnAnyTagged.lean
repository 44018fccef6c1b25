/- The walk of laws.FnAnyTagged. -/
import Derived.Test.YtcimjejbakgadaaLawElem
import Derived.Test.YtcimjejbakgadaaImpAsn
import Derived.Test.YtcimjejbakgadaaImpAny
namespace Go.Proofs.Ytcimjejbakgadaa
open Go.RowKit
set_option linter.unusedVariables false

set_option maxRecDepth 100000 in
set_option maxHeartbeats 1600000 in
theorem main_FnAnyTagged (w : World) (a : Option Addr) (n c : Nat) (xs : List Int) (hn : xs.length = n) (hb : BIn w w.heap.size a xs) (hx : Byt xs) (hc : n ≤ c) (hm : c ≤ maxLen) (h0 : n ≤ 1048576) (t : Int) (t0 : 0 ≤ t) (t1 : t ≤ 255) :
    Calls Try.prog 16 #[.slice a n c, .int .i64 t] w fun e w' => e = .returned (.bool true) ∧ Below w.heap.size w w' := by
  have T := Lib.hid (tagOk_yes t w t0 t1)
  have K := Lib.hid (iReadAny_any a n c xs w hn hb hx (by omega))
  have G := Lib.hid (fun W (hB : Below w.heap.size w W) => iReadASN1_any a n c xs t W hn ((hb.below hB).more hB.size) hx (by omega) t0 t1)
  have D := Lib.hid (fun W (hB : Below w.heap.size w W) => isElement_any a n c xs w.heap.size W hn hc (hb.below hB) hB.size hx (by omega))
  cases hf : first xs with
  | none =>
    have Hf := Lib.hid hf
    have Hf2 := Lib.hid (firstOf_none (tag := t) hf)
    clear hn hb hx hf t0 t1
    go_enter Try.func16, Try.ntmps16
    go_wp2_with fail
    refine T.out.mono ?_
    rintro e w' ⟨rfl, rfl⟩
    go_wp2_with fail
    refine (fits_any a n c _ h0).mono ?_
    rintro e w' ⟨rfl, rfl⟩
    go_wp2_with fail
    refine K.out.mono ?_
    intro e w1 hq
    unfold AnyOf at hq
    rw [Hf.out] at hq
    obtain ⟨v1, v2, v3, rfl, p1⟩ := hq
    go_wp2_with fail
    refine (G.out w1 p1).mono ?_
    intro e w2 hp
    unfold TwoOf at hp
    rw [Hf2.out] at hp
    obtain ⟨v4, v5, rfl, p2⟩ := hp
    have p12 := p1.trans (p2.mono p1.size)
    go_wp2_with fail
    refine (D.out w2 p12).mono ?_
    rw [Hf.out]
    rintro e w3 ⟨rfl, p3⟩
    go_wp2
    go_ret
    exact ⟨rfl, p12.trans (p3.mono p12.size)⟩
  | some v =>
    obtain ⟨tg, b, k⟩ := v
    have Hf := Lib.hid hf
    have Hx := Lib.hid hx
    by_cases ht : tg = t
    · obtain ⟨out, hout⟩ : ∃ out, (xs.take k).drop b = out := ⟨_, rfl⟩
      obtain ⟨rest, hrest⟩ : ∃ rest, xs.drop k = rest := ⟨_, rfl⟩
      have Hf2 := Lib.hid (show firstOf xs t = some (out, rest) by rw [firstOf_some hf, if_pos ht, hout, hrest])
      have Ho := Lib.hid (show Byt out by rw [← hout]; exact (hx.take _).drop _)
      have Hr := Lib.hid (show Byt rest by rw [← hrest]; exact hx.drop _)
      have Hout := Lib.hid hout
      have Hrest := Lib.hid hrest
      clear hout hrest
      have e1 : (tg == t) = true := by simp [ht]
      subst ht
      clear hn hb hx hf t0 t1
      go_enter Try.func16, Try.ntmps16
      go_wp2_with fail
      refine T.out.mono ?_
      rintro e w' ⟨rfl, rfl⟩
      go_wp2_with fail
      refine (fits_any a n c _ h0).mono ?_
      rintro e w' ⟨rfl, rfl⟩
      go_wp2_with fail
      refine K.out.mono ?_
      intro e w1 hq
      unfold AnyOf at hq
      rw [Hf.out] at hq
      simp only at hq
      rw [Hout.out, Hrest.out] at hq
      obtain ⟨a1, c1, a2, c2, rfl, _, _, _, _, q3, q4, p1⟩ := hq
      go_wp2_with fail
      refine (G.out w1 p1).mono ?_
      intro e w2 hp
      unfold TwoOf at hp
      rw [Hf2.out] at hp
      obtain ⟨a3, c3, a4, c4, rfl, _, _, _, _, r3, r4, p2⟩ := hp
      have p12 := p1.trans (p2.mono p1.size)
      go_wp2_with fail
      refine (same_any a1 a3 out.length c1 out.length c3 out out w2 w2.heap.size rfl rfl ((q3.below p2).lt) r3 Ho.out Ho.out).mono ?_
      rintro e w4 ⟨rfl, rfl⟩
      have y1 : decide (out = out) = true := by simp
      rw [y1]
      go_wp2_with fail
      refine (same_any a2 a4 rest.length c2 rest.length c4 rest rest w2 w2.heap.size rfl rfl ((q4.below p2).lt) r4 Hr.out Hr.out).mono ?_
      rintro e w4 ⟨rfl, rfl⟩
      go_wp2
      go_ret
      exact ⟨ret_bool (by simp), p12⟩
    · have Hf2 := Lib.hid (show firstOf xs t = none by rw [firstOf_some hf, if_neg ht])
      have e1 : (tg == t) = false := by simp [ht]
      clear hn hb hx hf t0 t1
      go_enter Try.func16, Try.ntmps16
      go_wp2_with fail
      refine T.out.mono ?_
      rintro e w' ⟨rfl, rfl⟩
      go_wp2_with fail
      refine (fits_any a n c _ h0).mono ?_
      rintro e w' ⟨rfl, rfl⟩
      go_wp2_with fail
      refine K.out.mono ?_
      intro e w1 hq
      unfold AnyOf at hq
      rw [Hf.out] at hq
      obtain ⟨a1, c1, a2, c2, rfl, _, _, _, _, q3, q4, p1⟩ := hq
      go_wp2_with fail
      refine (G.out w1 p1).mono ?_
      intro e w2 hp
      unfold TwoOf at hp
      rw [Hf2.out] at hp
      obtain ⟨v4, v5, rfl, p2⟩ := hp
      have p12 := p1.trans (p2.mono p1.size)
      go_wp2
      go_ret
      exact ⟨rfl, p12⟩

-- PRE (printed by gen_pre.py of this folder)
set_option maxRecDepth 100000 in
set_option maxHeartbeats 800000 in
theorem walk_FnAnyTagged (w : World) (a : Option Addr) (n c : Nat) (xs : List Int) (hn : xs.length = n) (hb : BIn w w.heap.size a xs) (hx : Byt xs) (hc : n ≤ c) (hm : c ≤ maxLen) (t : Int) (wt : (Lit.int .i64 t).wf = true) :
    Calls Try.prog 16 #[.slice a n c, .int .i64 t] w fun e w' => e = .returned (.bool true) ∧ Below w.heap.size w w' := by
  by_cases ht : 0 ≤ t ∧ t ≤ 255
  · by_cases h0 : n ≤ 1048576
    · exact main_FnAnyTagged w a n c xs hn hb hx hc hm h0 t ht.1 ht.2
    · by_cases hz : n ≤ 2147483647
      · have T := Lib.hid (tagOk_yes t w ht.1 ht.2)
        clear ht wt
        go_enter Try.func16, Try.ntmps16
        go_wp2_with fail
        refine T.out.mono ?_
        rintro e w' ⟨rfl, rfl⟩
        go_wp2_with fail
        refine (fits_no a n c _ (by omega)).mono ?_
        rintro e w' ⟨rfl, rfl⟩
        go_wp2
        go_ret
        exact ⟨rfl, Below.refl _ _⟩
      · clear ht wt
        go_enter Try.func16, Try.ntmps16
        go_wp2
        go_ret
        exact ⟨rfl, Below.refl _ _⟩
  · by_cases hz : n ≤ 2147483647
    · have T := Lib.hid (tagOk_no t w (by omega))
      clear ht wt
      go_enter Try.func16, Try.ntmps16
      go_wp2_with fail
      refine T.out.mono ?_
      rintro e w' ⟨rfl, rfl⟩
      go_wp2
      go_ret
      exact ⟨rfl, Below.refl _ _⟩
    · clear ht wt
      go_enter Try.func16, Try.ntmps16
      go_wp2
      go_ret
      exact ⟨rfl, Below.refl _ _⟩
end Go.Proofs.Ytcimjejbakgadaa
