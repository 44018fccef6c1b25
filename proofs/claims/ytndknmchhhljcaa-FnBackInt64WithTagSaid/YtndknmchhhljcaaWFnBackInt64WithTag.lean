/- The walk of laws.FnBackInt64WithTag. (Printed by gen_laws3.py.) -/
import Derived.Test.YtndknmchhhljcaaWf
import Derived.Test.YtndknmchhhljcaaImpInt
namespace Go.Proofs.Ytndknmchhhljcaa
open Go.RowKit
set_option linter.unusedVariables false

theorem intRead_wrap {t o v : Int} {xs : List Int} (ht : t % 32 ≠ 31) (h0 : -9223372036854775808 ≤ v) (h1 : v ≤ 9223372036854775807) (hx : Byt xs) : intRead (derWrap t (intC v) ++ xs) o = if t = o then some (v, xs) else none := by
  obtain ⟨i1, i2, i3, _⟩ := intC_ok h0 h1
  unfold intRead
  rw [firstOf_derWrap ht o (intC v) xs (by omega) (bigB_byt _ _) hx]
  by_cases h : t = o
  · rw [if_pos h, if_pos h]
    simp only
    rw [if_pos ⟨i1, i2⟩, i3]
  · rw [if_neg h, if_neg h]

set_option maxRecDepth 100000 in
set_option maxHeartbeats 1600000 in
theorem main_FnBackInt64WithTag (w : World) (v : Int) (h0 : -9223372036854775808 ≤ v) (h1 : v ≤ 9223372036854775807) (t o : Int) (ht : t % 32 ≠ 31) (t0 : 0 ≤ t) (t1 : t ≤ 255) (o0 : 0 ≤ o) (o1 : o ≤ 255) (a : Option Addr) (n c : Nat) (xs : List Int) (hn : xs.length = n) (hb : BIn w w.heap.size a xs) (hx : Byt xs) (hl : n ≤ 1048576) :
    Calls Try.prog 25 #[.int .i64 v, .int .i64 t, .int .i64 o, .slice a n c] w fun e w' => e = .returned (.bool true) ∧ Below w.heap.size w w' := by
  have T := Lib.hid (tagOk_yes t w t0 t1)
  have TO := Lib.hid (tagOk_yes o w o0 o1)
  have t2 : (t % 32 == 31) = false := by simp [ht]
  have K := Lib.hid (iInt64T w v t ht t0 t1 h0 h1)
  have E := Lib.hid (show intRead (derWrap t (intC v) ++ xs) t = some (v, xs) by rw [intRead_wrap ht h0 h1 hx, if_pos rfl])
  have E2 := Lib.hid (intRead_wrap (o := o) ht h0 h1 hx)
  have HbX := Lib.hid (show Byt (derWrap t (intC v)) from derWrap_byt t0 (by omega) (bigB_byt _ _))
  have HXl := Lib.hid (show (derWrap t (intC v)).length ≤ 1000 by
    have h9 := (intC_ok h0 h1).2.1
    have := derWrap_len t (intC v)
    omega)
  clear h0 h1 ht
  generalize derWrap t (intC v) = X at *
  obtain ⟨m, hm⟩ : ∃ m, m = X.length := ⟨_, rfl⟩
  have Hm := Lib.hid hm.symm
  have Hn := Lib.hid hn
  have HB := Lib.hid hb
  have Hx := Lib.hid hx
  have hmn := Lib.hid (show (X ++ xs).length = m + n by rw [List.length_append, Hm.out, Hn.out])
  have hml := Lib.hid (show m + n ≤ 4194304000 by have := HXl.out; have := Hm.out; omega)
  clear hn hb hx hm
  by_cases hto : t = o
  · subst hto
    rw [if_pos rfl] at E2
    clear E2
    go_enter Try.func25, Try.ntmps25
    go_wp2_with fail
    refine T.out.mono ?_
    rintro e w' ⟨rfl, rfl⟩
    go_wp2_with fail
    refine T.out.mono ?_
    rintro e w' ⟨rfl, rfl⟩
    go_wp2_with fail
    refine (fits_any a n c _ hl).mono ?_
    rintro e w' ⟨rfl, rfl⟩
    go_wp2_with fail
    refine K.out.mono ?_
    rintro e w1 ⟨a1, c1, rfl, p1, p2, p3, p4⟩
    rw [Hm.out] at p1 ⊢
    go_wp2_with fail
    refine (behind_any a1 a m c1 n c X xs w1 Hm.out Hn.out p3 ((HB.out.below p4).lt) (by have := hml.out; omega)).mono ?_
    rintro e w2 ⟨a2, c2, rfl, q1, q2, q3, q4, _⟩
    have p24 := p4.trans (q4.mono p4.size)
    go_wp2_with fail
    refine (iReadIntT_any a2 (m + n) c2 (X ++ xs) t w2 hmn.out q3 (HbX.out.append Hx.out) hml.out t0 t1).mono ?_
    intro e w3 hq
    rw [E.out] at hq
    obtain ⟨a3, c3, rfl, _, _, r3, r4⟩ := hq
    rw [Hn.out]
    have p34 := p24.trans (r4.mono p24.size)
    go_wp2_with fail
    refine (behind_any a1 a m c1 n c X xs w3 Hm.out Hn.out ((p3.below (q4.trans (r4.mono q4.size))).lt) ((HB.out.below p34).lt) (by have := hml.out; omega)).mono ?_
    rintro e w4 ⟨a4, c4, rfl, _, _, s3, s4, _⟩
    have p44 := p34.trans (s4.mono p34.size)
    go_wp2_with fail
    refine (iReadIntT_any a4 (m + n) c4 (X ++ xs) t w4 hmn.out s3 (HbX.out.append Hx.out) hml.out t0 t1).mono ?_
    intro e w5 hq
    rw [E.out] at hq
    obtain ⟨a5, c5, rfl, _, _, _, u4⟩ := hq
    have p54 := p44.trans (u4.mono p44.size)
    have R3 := Lib.hid ((r3.below (s4.trans (u4.mono s4.size))).lt)
    go_wp2_with fail
    refine (same_any a3 a n c3 n c xs xs w5 w5.heap.size Hn.out Hn.out R3.out ((HB.out.below p54).lt) Hx.out Hx.out).mono ?_
    rintro e w6 ⟨rfl, rfl⟩
    go_wp2
    go_ret
    exact ⟨ret_bool (by simp), p54⟩
  · rw [if_neg hto] at E2
    have t3 : (t == o) = false := by simpa using hto
    clear hto
    go_enter Try.func25, Try.ntmps25
    go_wp2_with fail
    refine T.out.mono ?_
    rintro e w' ⟨rfl, rfl⟩
    go_wp2_with fail
    refine TO.out.mono ?_
    rintro e w' ⟨rfl, rfl⟩
    go_wp2_with fail
    refine (fits_any a n c _ hl).mono ?_
    rintro e w' ⟨rfl, rfl⟩
    go_wp2_with fail
    refine K.out.mono ?_
    rintro e w1 ⟨a1, c1, rfl, p1, p2, p3, p4⟩
    rw [Hm.out] at p1 ⊢
    go_wp2_with fail
    refine (behind_any a1 a m c1 n c X xs w1 Hm.out Hn.out p3 ((HB.out.below p4).lt) (by have := hml.out; omega)).mono ?_
    rintro e w2 ⟨a2, c2, rfl, q1, q2, q3, q4, _⟩
    have p24 := p4.trans (q4.mono p4.size)
    go_wp2_with fail
    refine (iReadIntT_any a2 (m + n) c2 (X ++ xs) t w2 hmn.out q3 (HbX.out.append Hx.out) hml.out t0 t1).mono ?_
    intro e w3 hq
    rw [E.out] at hq
    obtain ⟨a3, c3, rfl, _, _, r3, r4⟩ := hq
    rw [Hn.out]
    have p34 := p24.trans (r4.mono p24.size)
    go_wp2_with fail
    refine (behind_any a1 a m c1 n c X xs w3 Hm.out Hn.out ((p3.below (q4.trans (r4.mono q4.size))).lt) ((HB.out.below p34).lt) (by have := hml.out; omega)).mono ?_
    rintro e w4 ⟨a4, c4, rfl, _, _, s3, s4, _⟩
    have p44 := p34.trans (s4.mono p34.size)
    go_wp2_with fail
    refine (iReadIntT_any a4 (m + n) c4 (X ++ xs) o w4 hmn.out s3 (HbX.out.append Hx.out) hml.out o0 o1).mono ?_
    intro e w5 hq
    rw [E2.out] at hq
    obtain ⟨v5, v6, rfl, u4⟩ := hq
    have p54 := p44.trans (u4.mono p44.size)
    have R3 := Lib.hid ((r3.below (s4.trans (u4.mono s4.size))).lt)
    go_wp2_with fail
    refine (same_any a3 a n c3 n c xs xs w5 w5.heap.size Hn.out Hn.out R3.out ((HB.out.below p54).lt) Hx.out Hx.out).mono ?_
    rintro e w6 ⟨rfl, rfl⟩
    go_wp2
    go_ret
    exact ⟨ret_bool (by simp), p54⟩

set_option maxRecDepth 100000 in
set_option maxHeartbeats 800000 in
theorem walk_FnBackInt64WithTag (w : World) (v : Int) (wv : (Lit.int .i64 v).wf = true) (t : Int) (wt : (Lit.int .i64 t).wf = true) (o : Int) (wo : (Lit.int .i64 o).wf = true) (a : Option Addr) (n c : Nat) (xs : List Int) (hn : xs.length = n) (hb : BIn w w.heap.size a xs) (hx : Byt xs) (hc : n ≤ c) (hm : c ≤ maxLen) :
    Calls Try.prog 25 #[.int .i64 v, .int .i64 t, .int .i64 o, .slice a n c] w fun e w' => e = .returned (.bool true) ∧ Below w.heap.size w w' := by
  obtain ⟨h0, h1⟩ := i64_wf wv
  by_cases hz : n ≤ 2147483647
  · by_cases ht : 0 ≤ t ∧ t ≤ 255
    · by_cases ho : 0 ≤ o ∧ o ≤ 255
      · by_cases h31 : t % 32 = 31
        · have t2 : (t % 32 == 31) = true := by simp [h31]
          have T := Lib.hid (tagOk_yes t w ht.1 ht.2)
          have TO := Lib.hid (tagOk_yes o w ho.1 ho.2)
          obtain ⟨t0, t1⟩ := ht
          clear wv wt wo ho h0 h1 hn hb hx h31
          go_enter Try.func25, Try.ntmps25
          go_wp2_with fail
          refine T.out.mono ?_
          rintro e w' ⟨rfl, rfl⟩
          go_wp2_with fail
          refine TO.out.mono ?_
          rintro e w' ⟨rfl, rfl⟩
          go_wp2
          go_ret
          exact ⟨rfl, Below.refl _ _⟩
        · by_cases hl : n ≤ 1048576
          · exact main_FnBackInt64WithTag w v h0 h1 t o h31 ht.1 ht.2 ho.1 ho.2 a n c xs hn hb hx hl
          · have t2 : (t % 32 == 31) = false := by simp [h31]
            have T := Lib.hid (tagOk_yes t w ht.1 ht.2)
            have TO := Lib.hid (tagOk_yes o w ho.1 ho.2)
            obtain ⟨t0, t1⟩ := ht
            clear wv wt wo ho h0 h1 hn hb hx h31
            go_enter Try.func25, Try.ntmps25
            go_wp2_with fail
            refine T.out.mono ?_
            rintro e w' ⟨rfl, rfl⟩
            go_wp2_with fail
            refine TO.out.mono ?_
            rintro e w' ⟨rfl, rfl⟩
            go_wp2_with fail
            refine (fits_no a n c _ (by omega)).mono ?_
            rintro e w' ⟨rfl, rfl⟩
            go_wp2
            go_ret
            exact ⟨rfl, Below.refl _ _⟩
      · have T := Lib.hid (tagOk_yes t w ht.1 ht.2)
        have TO := Lib.hid (tagOk_no o w (by omega))
        clear wv wt wo ht ho h0 h1 hn hb hx
        go_enter Try.func25, Try.ntmps25
        go_wp2_with fail
        refine T.out.mono ?_
        rintro e w' ⟨rfl, rfl⟩
        go_wp2_with fail
        refine TO.out.mono ?_
        rintro e w' ⟨rfl, rfl⟩
        go_wp2
        go_ret
        exact ⟨rfl, Below.refl _ _⟩
    · have T := Lib.hid (tagOk_no t w (by omega))
      clear wv wt wo ht h0 h1 hn hb hx
      go_enter Try.func25, Try.ntmps25
      go_wp2_with fail
      refine T.out.mono ?_
      rintro e w' ⟨rfl, rfl⟩
      go_wp2
      go_ret
      exact ⟨rfl, Below.refl _ _⟩
  · clear wv wt wo h0 h1 hn hb hx
    go_enter Try.func25, Try.ntmps25
    go_wp2
    go_ret
    exact ⟨rfl, Below.refl _ _⟩
end Go.Proofs.Ytndknmchhhljcaa
