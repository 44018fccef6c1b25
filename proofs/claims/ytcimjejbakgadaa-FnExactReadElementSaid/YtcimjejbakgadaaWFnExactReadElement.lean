/- The walk of laws.FnExactReadElement. -/
import Derived.Test.YtcimjejbakgadaaSpecOf
import Derived.Test.YtcimjejbakgadaaImpElem
namespace Go.Proofs.Ytcimjejbakgadaa
open Go.RowKit
set_option linter.unusedVariables false

set_option maxRecDepth 100000 in
set_option maxHeartbeats 1600000 in
theorem main_FnExactReadElement (w : World) (a : Option Addr) (n c : Nat) (xs : List Int) (hn : xs.length = n) (hb : BIn w w.heap.size a xs) (hx : Byt xs) (hc : n ≤ c) (hm : c ≤ maxLen) (h0 : n ≤ 1048576) (t : Int) (t0 : 0 ≤ t) (t1 : t ≤ 255) :
    Calls Try.prog 14 #[.slice a n c, .int .i64 t] w fun e w' => e = .returned (.bool true) ∧ Below w.heap.size w w' := by
  have T := Lib.hid (tagOk_yes t w t0 t1)
  have K := Lib.hid (iReadElem_any a n c xs t w hn hb hx (by omega) t0 t1)
  have D := Lib.hid (fun W (hB : Below w.heap.size w W) => first_any a n c xs w.heap.size W hn hc (hb.below hB) hB.size hx (by omega))
  cases hf : first xs with
  | none =>
    have Hf := Lib.hid (elemOf_none (tag := t) hf)
    have E := Lib.hid (firstVal_none hf)
    clear hn hb hx hf t0 t1
    go_enter Try.func14, Try.ntmps14
    go_wp2_with fail
    refine T.out.mono ?_
    rintro e w' ⟨rfl, rfl⟩
    go_wp2_with fail
    refine (fits_any a n c _ h0).mono ?_
    rintro e w' ⟨rfl, rfl⟩
    go_wp2_with fail
    refine K.out.mono ?_
    intro e w1 hq
    unfold TwoOf at hq
    rw [Hf.out] at hq
    obtain ⟨v1, v2, rfl, p1⟩ := hq
    go_wp2_with fail
    refine (D.out w1 p1).mono ?_
    rintro e w3 ⟨rfl, p3⟩
    rw [E.out]
    have p13 := p1.trans (p3.mono p1.size)
    go_wp2
    go_ret
    exact ⟨rfl, p13.alloc p13.size _⟩
  | some v =>
    obtain ⟨tg, b, k⟩ := v
    have E := Lib.hid (firstVal_some hf)
    obtain ⟨b1, b2, b3, _, _, b6⟩ := first_bounds hf
    rw [hn] at b3
    have sl := sl_from a n c k k rfl b3
    by_cases ht : tg = t
    · obtain ⟨out, hout⟩ : ∃ out, xs.take k = out := ⟨_, rfl⟩
      obtain ⟨rest, hrest⟩ : ∃ rest, xs.drop k = rest := ⟨_, rfl⟩
      have Hf := Lib.hid (show elemOf xs t = some (out, rest) by rw [elemOf_some hf, if_pos ht, hout, hrest])
      have Ho := Lib.hid (show Byt out by rw [← hout]; exact hx.take _)
      have Hr := Lib.hid (show Byt rest by rw [← hrest]; exact hx.drop _)
      have Z := Lib.hid (show BIn w w.heap.size a out ∧ BIn w w.heap.size (cutA a c k) rest ∧ out.length = k ∧ rest.length = n - k by
        rw [← hout, ← hrest]
        exact ⟨hb.take k, hb.cut (by omega), by rw [List.length_take]; omega, by rw [List.length_drop, hn]⟩)
      have e1 : (tg == t) = true := by simp [ht]
      subst ht
      clear hn hb hx hf hout hrest t0 t1
      go_enter Try.func14, Try.ntmps14
      go_wp2_with fail
      refine T.out.mono ?_
      rintro e w' ⟨rfl, rfl⟩
      go_wp2_with fail
      refine (fits_any a n c _ h0).mono ?_
      rintro e w' ⟨rfl, rfl⟩
      go_wp2_with fail
      refine K.out.mono ?_
      intro e w1 hq
      unfold TwoOf at hq
      rw [Hf.out] at hq
      obtain ⟨a1, c1, a2, c2, rfl, _, _, _, _, q3, q4, p1⟩ := hq
      go_wp2_with fail
      refine (D.out w1 p1).mono ?_
      rintro e w3 ⟨rfl, p3⟩
      rw [E.out]
      have p13 := p1.trans (p3.mono p1.size)
      go_wp2_with fail
      obtain ⟨w4, hw4⟩ : ∃ w4, w4 = w3.alloc (.cells #[.int .i64 tg, .int .i64 b, .int .i64 k] 46) := ⟨_, rfl⟩
      have p34 : Below w3.heap.size w3 w4 := by rw [hw4]; exact (Below.refl _ _).alloc (Nat.le_refl _) _
      have p14 : Below w.heap.size w w4 := p13.trans (p34.mono p13.size)
      have k2 : w4.cell? ⟨w3.heap.size, 2, none⟩ = some (.int .i64 k) := by rw [hw4]; exact (Blk.new _ _ _).cell 2
      rw [← hw4]
      refine (same_any a1 a out.length c1 k c out out w4 w4.heap.size rfl Z.out.2.2.1 ((((q3.below p3).lt).below p34).lt) ((Z.out.1.below p14).lt) Ho.out Ho.out).mono ?_
      rintro e w5 ⟨rfl, rfl⟩
      have y1 : decide (out = out) = true := by simp
      rw [y1]
      clear hw4
      go_wp2_with fail
      refine (same_any a2 (cutA a c k) rest.length c2 (n - k) (c - k) rest rest w4 w4.heap.size rfl Z.out.2.2.2 ((((q4.below p3).lt).below p34).lt) ((Z.out.2.1.below p14).lt) Hr.out Hr.out).mono ?_
      rintro e w5 ⟨rfl, rfl⟩
      go_wp2
      go_ret
      exact ⟨ret_bool (by simp), p14⟩
    · have Hf := Lib.hid (show elemOf xs t = none by rw [elemOf_some hf, if_neg ht])
      have e1 : (tg == t) = false := by simp [ht]
      clear hn hb hx hf t0 t1
      go_enter Try.func14, Try.ntmps14
      go_wp2_with fail
      refine T.out.mono ?_
      rintro e w' ⟨rfl, rfl⟩
      go_wp2_with fail
      refine (fits_any a n c _ h0).mono ?_
      rintro e w' ⟨rfl, rfl⟩
      go_wp2_with fail
      refine K.out.mono ?_
      intro e w1 hq
      unfold TwoOf at hq
      rw [Hf.out] at hq
      obtain ⟨v1, v2, rfl, p1⟩ := hq
      go_wp2_with fail
      refine (D.out w1 p1).mono ?_
      rintro e w3 ⟨rfl, p3⟩
      rw [E.out]
      have p13 := p1.trans (p3.mono p1.size)
      go_wp2
      go_ret
      exact ⟨rfl, p13.alloc p13.size _⟩

-- PRE (printed by gen_pre.py of this folder)
set_option maxRecDepth 100000 in
set_option maxHeartbeats 800000 in
theorem walk_FnExactReadElement (w : World) (a : Option Addr) (n c : Nat) (xs : List Int) (hn : xs.length = n) (hb : BIn w w.heap.size a xs) (hx : Byt xs) (hc : n ≤ c) (hm : c ≤ maxLen) (t : Int) (wt : (Lit.int .i64 t).wf = true) :
    Calls Try.prog 14 #[.slice a n c, .int .i64 t] w fun e w' => e = .returned (.bool true) ∧ Below w.heap.size w w' := by
  by_cases ht : 0 ≤ t ∧ t ≤ 255
  · by_cases h0 : n ≤ 1048576
    · exact main_FnExactReadElement w a n c xs hn hb hx hc hm h0 t ht.1 ht.2
    · by_cases hz : n ≤ 2147483647
      · have T := Lib.hid (tagOk_yes t w ht.1 ht.2)
        clear ht wt
        go_enter Try.func14, Try.ntmps14
        go_wp2_with fail
        refine T.out.mono ?_
        rintro e w' ⟨rfl, rfl⟩
        go_wp2_with fail
        refine (fits_no a n c _ (by omega)).mono ?_
        rintro e w' ⟨rfl, rfl⟩
        go_wp2
        go_ret
        exact ⟨rfl, Below.refl _ _⟩
      · clear ht wt
        go_enter Try.func14, Try.ntmps14
        go_wp2
        go_ret
        exact ⟨rfl, Below.refl _ _⟩
  · by_cases hz : n ≤ 2147483647
    · have T := Lib.hid (tagOk_no t w (by omega))
      clear ht wt
      go_enter Try.func14, Try.ntmps14
      go_wp2_with fail
      refine T.out.mono ?_
      rintro e w' ⟨rfl, rfl⟩
      go_wp2
      go_ret
      exact ⟨rfl, Below.refl _ _⟩
    · clear ht wt
      go_enter Try.func14, Try.ntmps14
      go_wp2
      go_ret
      exact ⟨rfl, Below.refl _ _⟩
end Go.Proofs.Ytcimjejbakgadaa
