/- The walk of laws.FnEndless. -/
import Derived.Test.YtcimjejbakgadaaSpecBig
import Derived.Test.YtcimjejbakgadaaImpAny
import Derived.Test.YtcimjejbakgadaaImpAsn
namespace Go.Proofs.Ytcimjejbakgadaa
open Go.RowKit
set_option linter.unusedVariables false

theorem first_endless (t : Int) (v : List Int) : first ([t, 128] ++ v) = none := by
  by_cases h : t % 32 = 31
  · exact first_high h
  · exact first_long_bad (x0 := t) (r := v) (m := 0) h (.inl rfl)
theorem first_derWrap_high {t : Int} (h : t % 32 = 31) (c : List Int) : first (derWrap t c) = none := by
  unfold derWrap derHdr
  split
  · exact first_high h
  · exact first_high h

set_option maxRecDepth 100000 in
set_option maxHeartbeats 1600000 in
theorem main_FnEndless (w : World) (t : Int) (t0 : 0 ≤ t) (t1 : t ≤ 255) (a : Option Addr) (n c : Nat) (xs : List Int) (hn : xs.length = n) (hb : BIn w w.heap.size a xs) (hx : Byt xs) (hc : n ≤ c) (hm : c ≤ maxLen) (h0 : n ≤ 1048576) :
    Calls Try.prog 17 #[.int .i64 t, .slice a n c] w fun e w' => e = .returned (.bool true) ∧ Below w.heap.size w w' := by
  have T := Lib.hid (tagOk_yes t w t0 t1)
  have E1 := Lib.hid (first_endless t xs)
  have H2 := Lib.hid (show Byt [t, 128] from fun y hy => by simp at hy; rcases hy with rfl | rfl <;> omega)
  have W := Lib.hid (fun W (h : BIn W W.heap.size a xs) => wrapped_any t a n c xs W t0 (by omega) (by omega) hn h)
  have HbX := Lib.hid (derWrap_byt t0 (by omega) hx)
  have HXl := Lib.hid (show (derWrap t xs).length ≤ 1048600 by have := derWrap_len t xs; omega)
  have E2 := Lib.hid (show firstOf (derWrap t xs) t = if t % 32 = 31 then none else some (xs, []) by
    by_cases h : t % 32 = 31
    · rw [if_pos h, firstOf_none (first_derWrap_high h xs)]
    · rw [if_neg h]
      have := firstOf_derWrap h t xs [] (by omega) hx Byt.nil
      rw [List.append_nil, if_pos rfl] at this
      exact this)
  generalize derWrap t xs = X at *
  obtain ⟨m, hm'⟩ : ∃ m, m = X.length := ⟨_, rfl⟩
  have Hm := Lib.hid hm'.symm
  have Hn := Lib.hid hn
  have HB := Lib.hid hb
  have Hx := Lib.hid hx
  clear hn hb hx hm'
  by_cases ht : t % 32 = 31
  · rw [if_pos ht] at E2
    have t2 : (t % 32 != 31) = false := by simp [ht]
    clear ht
    go_enter Try.func17, Try.ntmps17
    go_wp2_with fail
    refine T.out.mono ?_
    rintro e w' ⟨rfl, rfl⟩
    go_wp2_with fail
    refine (fits_any a n c _ h0).mono ?_
    rintro e w' ⟨rfl, rfl⟩
    go_wp2_with fail
    have F1 := (Fr.refl [] w).alloc (.cells #[.int .u8 t, .int .u8 128] 5)
    have P1 := Lib.hid (F1.below (B := w.heap.size) (by simp) (Nat.le_refl _))
    refine (behind_any _ a 2 2 n c [t, 128] xs (w.alloc (.cells #[.int .u8 t, .int .u8 128] 5)) rfl Hn.out (lit_bin w [t, 128] #[.int .u8 t, .int .u8 128] 2 rfl rfl (by omega)).lt (F1.bin HB.out (by simp)).lt (by omega)).mono ?_
    rintro e w2 ⟨a2, c2, rfl, q1, q2, q3, q4, _⟩
    have p2 := P1.out.trans (q4.mono P1.out.size)
    go_wp2_with fail
    refine (iReadAny_any a2 (2 + n) c2 ([t, 128] ++ xs) w2 (by rw [List.length_append, Hn.out]; rfl) q3 (H2.out.append Hx.out) (by omega)).mono ?_
    intro e w3 hq
    unfold AnyOf at hq
    rw [E1.out] at hq
    obtain ⟨v1, v2, v3, rfl, p3⟩ := hq
    have p23 := p2.trans (p3.mono p2.size)
    go_wp2_with fail
    refine (W.out w3 ((HB.out.below p23).lt)).mono ?_
    rintro e w4 ⟨a4, c4, rfl, r1, r2, r3, r4, _⟩
    rw [Hm.out]
    have p34 := p23.trans (r4.mono p23.size)
    go_wp2_with fail
    refine (iReadASN1_any a4 m c4 X t w4 Hm.out r3 HbX.out (by have := HXl.out; have := Hm.out; omega) t0 t1).mono ?_
    intro e w5 hq
    rw [E2.out] at hq
    obtain ⟨v4, v5, rfl, p5⟩ := hq
    have p35 := p34.trans (p5.mono p34.size)
    go_wp2
    go_ret
    exact ⟨ret_bool (by simp), p35⟩
  · rw [if_neg ht] at E2
    have t2 : (t % 32 != 31) = true := by simp [ht]
    clear ht
    go_enter Try.func17, Try.ntmps17
    go_wp2_with fail
    refine T.out.mono ?_
    rintro e w' ⟨rfl, rfl⟩
    go_wp2_with fail
    refine (fits_any a n c _ h0).mono ?_
    rintro e w' ⟨rfl, rfl⟩
    go_wp2_with fail
    have F1 := (Fr.refl [] w).alloc (.cells #[.int .u8 t, .int .u8 128] 5)
    have P1 := Lib.hid (F1.below (B := w.heap.size) (by simp) (Nat.le_refl _))
    refine (behind_any _ a 2 2 n c [t, 128] xs (w.alloc (.cells #[.int .u8 t, .int .u8 128] 5)) rfl Hn.out (lit_bin w [t, 128] #[.int .u8 t, .int .u8 128] 2 rfl rfl (by omega)).lt (F1.bin HB.out (by simp)).lt (by omega)).mono ?_
    rintro e w2 ⟨a2, c2, rfl, q1, q2, q3, q4, _⟩
    have p2 := P1.out.trans (q4.mono P1.out.size)
    go_wp2_with fail
    refine (iReadAny_any a2 (2 + n) c2 ([t, 128] ++ xs) w2 (by rw [List.length_append, Hn.out]; rfl) q3 (H2.out.append Hx.out) (by omega)).mono ?_
    intro e w3 hq
    unfold AnyOf at hq
    rw [E1.out] at hq
    obtain ⟨v1, v2, v3, rfl, p3⟩ := hq
    have p23 := p2.trans (p3.mono p2.size)
    go_wp2_with fail
    refine (W.out w3 ((HB.out.below p23).lt)).mono ?_
    rintro e w4 ⟨a4, c4, rfl, r1, r2, r3, r4, _⟩
    rw [Hm.out]
    have p34 := p23.trans (r4.mono p23.size)
    go_wp2_with fail
    refine (iReadASN1_any a4 m c4 X t w4 Hm.out r3 HbX.out (by have := HXl.out; have := Hm.out; omega) t0 t1).mono ?_
    intro e w5 hq
    rw [E2.out] at hq
    obtain ⟨a6, c6, a7, c7, rfl, _, _, _, _, s3, s4, p5⟩ := hq
    rw [Hn.out]
    have p35 := p34.trans (p5.mono p34.size)
    go_wp2_with fail
    refine (same_any a6 a n c6 n c xs xs w5 w5.heap.size Hn.out Hn.out s3 ((HB.out.below p35).lt) Hx.out Hx.out).mono ?_
    rintro e w6 ⟨rfl, rfl⟩
    go_wp2
    go_ret
    exact ⟨ret_bool (by simp), p35⟩

set_option maxRecDepth 100000 in
set_option maxHeartbeats 800000 in
theorem walk_FnEndless (w : World) (t : Int) (wt : (Lit.int .i64 t).wf = true) (a : Option Addr) (n c : Nat) (xs : List Int) (hn : xs.length = n) (hb : BIn w w.heap.size a xs) (hx : Byt xs) (hc : n ≤ c) (hm : c ≤ maxLen) :
    Calls Try.prog 17 #[.int .i64 t, .slice a n c] w fun e w' => e = .returned (.bool true) ∧ Below w.heap.size w w' := by
  by_cases ht : 0 ≤ t ∧ t ≤ 255
  · by_cases h0 : n ≤ 1048576
    · exact main_FnEndless w t ht.1 ht.2 a n c xs hn hb hx hc hm h0
    · by_cases hz : n ≤ 2147483647
      · have T := Lib.hid (tagOk_yes t w ht.1 ht.2)
        clear ht wt hn hb hx
        go_enter Try.func17, Try.ntmps17
        go_wp2_with fail
        refine T.out.mono ?_
        rintro e w' ⟨rfl, rfl⟩
        go_wp2_with fail
        refine (fits_no a n c _ (by omega)).mono ?_
        rintro e w' ⟨rfl, rfl⟩
        go_wp2
        go_ret
        exact ⟨rfl, Below.refl _ _⟩
      · clear ht wt hn hb hx
        go_enter Try.func17, Try.ntmps17
        go_wp2
        go_ret
        exact ⟨rfl, Below.refl _ _⟩
  · by_cases hz : n ≤ 2147483647
    · have T := Lib.hid (tagOk_no t w (by omega))
      clear ht wt hn hb hx
      go_enter Try.func17, Try.ntmps17
      go_wp2_with fail
      refine T.out.mono ?_
      rintro e w' ⟨rfl, rfl⟩
      go_wp2
      go_ret
      exact ⟨rfl, Below.refl _ _⟩
    · clear ht wt hn hb hx
      go_enter Try.func17, Try.ntmps17
      go_wp2
      go_ret
      exact ⟨rfl, Below.refl _ _⟩
end Go.Proofs.Ytcimjejbakgadaa
