/- The walk of laws.FnExactRead16Prefixed. -/
import Derived.Test.YtcimjejbakgadaaImpPre
import Derived.Test.YtcimjejbakgadaaSpecOf
namespace Go.Proofs.Ytcimjejbakgadaa
open Go.RowKit
set_option linter.unusedVariables false

set_option maxRecDepth 100000 in
set_option maxHeartbeats 1600000 in
theorem main_FnExactRead16Prefixed (w : World) (a : Option Addr) (n c : Nat) (xs : List Int) (hn : xs.length = n) (hb : BIn w w.heap.size a xs) (hx : Byt xs) (hc : n ≤ c) (hm : c ≤ maxLen) (h0 : n ≤ 1048576) :
    Calls Try.prog 11 #[.slice a n c] w fun e w' => e = .returned (.bool true) ∧ Below w.heap.size w w' := by
  have K := Lib.hid (iRead16P_any a n c xs w hn hb hx (by omega))
  have Hn := Lib.hid hn
  have HB := Lib.hid hb
  have Hx := Lib.hid hx
  by_cases h2 : n < 2
  · have E := Lib.hid (show prefOf xs 2 = none by unfold prefOf; rw [if_pos (.inl (by omega))])
    have h2' : (n : Int) < 2 := by omega
    clear hn hb hx
    go_enter Try.func11, Try.ntmps11
    go_wp2_with fail
    refine (fits_any a n c _ h0).mono ?_
    rintro e w' ⟨rfl, rfl⟩
    go_wp2_with fail
    refine K.out.mono ?_
    intro e w1 hq
    rw [E.out] at hq
    obtain ⟨v1, v2, rfl, p1⟩ := hq
    go_wp2_with fail
    refine (number_no a n c 2 _ (by omega)).mono ?_
    rintro e w2 ⟨rfl, rfl⟩
    go_wp2
    go_ret
    exact ⟨rfl, p1⟩
  · have s0 := num_small (xs.take 2) 2 (hx.take 2) (by simp; omega)
    obtain ⟨L, hL⟩ := Int.eq_ofNat_of_zero_le s0.1
    have hL2 : L ≤ 65535 := by have := s0.2; simp only [Int.reducePow] at this; omega
    have N := Lib.hid (fun W (h : BIn W W.heap.size a xs) => number_yes a n c 2 xs W W.heap.size hn (by omega) (by omega) h hx)
    rw [hL] at N
    clear s0
    by_cases hbig : n < 2 + L
    · have E := Lib.hid (show prefOf xs 2 = none by unfold prefOf; rw [if_pos (.inr (by rw [hL, hn]; omega))])
      have hb' : ¬ ((L : Int) ≤ (n : Int) - 2) := by omega
      clear hn hb hx hL
      go_enter Try.func11, Try.ntmps11
      go_wp2_with fail
      refine (fits_any a n c _ h0).mono ?_
      rintro e w' ⟨rfl, rfl⟩
      go_wp2_with fail
      refine K.out.mono ?_
      intro e w1 hq
      rw [E.out] at hq
      obtain ⟨v1, v2, rfl, p1⟩ := hq
      go_wp2_with fail
      refine (N.out w1 ((HB.out.below p1).lt)).mono ?_
      rintro e w2 ⟨rfl, rfl⟩
      go_wp2
      go_ret
      exact ⟨ret_bool (by simp; omega), p1⟩
    · have E := Lib.hid (show prefOf xs 2 = some ((xs.drop 2).take L, xs.drop (2 + L)) by unfold prefOf; rw [if_neg (by rw [hL, hn]; omega), hL]; rfl)
      have hb' : ((L : Int) ≤ (n : Int) - 2) := by omega
      have sm := sl_mid a n c 2 (2 + L) 2 (2 + L) rfl (by omega) (by omega) (by omega)
      have sl := sl_from a n c (2 + L) (2 + L) (by omega) (by omega)
      have Z := fun (W : World) (h : BIn W W.heap.size a xs) => (show BIn W W.heap.size (cutA a c 2) ((xs.drop 2).take L) ∧ BIn W W.heap.size (cutA a c (2 + L)) (xs.drop (2 + L)) from ⟨(h.cut (by omega)).take L, h.cut (by omega)⟩)
      have HZ := Lib.hid Z
      obtain ⟨out, ho⟩ : ∃ out, out = (xs.drop 2).take L := ⟨_, rfl⟩
      obtain ⟨rest, hr⟩ : ∃ rest, rest = xs.drop (2 + L) := ⟨_, rfl⟩
      rw [← ho, ← hr] at E HZ
      have Ho := Lib.hid (show out.length = L ∧ Byt out by rw [ho]; exact ⟨by rw [List.length_take, List.length_drop]; omega, (hx.drop _).take _⟩)
      have Hr := Lib.hid (show rest.length = n - (2 + L) ∧ Byt rest by rw [hr]; exact ⟨by rw [List.length_drop]; omega, hx.drop _⟩)
      clear hn hb hx hL Z ho hr
      go_enter Try.func11, Try.ntmps11
      go_wp2_with fail
      refine (fits_any a n c _ h0).mono ?_
      rintro e w' ⟨rfl, rfl⟩
      go_wp2_with fail
      refine K.out.mono ?_
      intro e w1 hq
      rw [E.out] at hq
      obtain ⟨a1, c1, a2, c2, rfl, _, _, _, _, q3, q4, p1⟩ := hq
      rw [Ho.out.1, Hr.out.1]
      go_wp2_with fail
      refine (N.out w1 ((HB.out.below p1).lt)).mono ?_
      rintro e w2 ⟨rfl, rfl⟩
      go_wp2_with fail
      refine (same_any a1 _ L c1 L (c - 2) out out w1 w1.heap.size Ho.out.1 Ho.out.1 q3 (HZ.out w1 ((HB.out.below p1).lt)).1 Ho.out.2 Ho.out.2).mono ?_
      rintro e w3 ⟨rfl, rfl⟩
      have z1 : decide (out = out) = true := by simp
      rw [z1]
      go_wp2_with fail
      refine (same_any a2 _ (n - (2 + L)) c2 (n - (2 + L)) (c - (2 + L)) rest rest w1 w1.heap.size Hr.out.1 Hr.out.1 q4 (HZ.out w1 ((HB.out.below p1).lt)).2 Hr.out.2 Hr.out.2).mono ?_
      rintro e w3 ⟨rfl, rfl⟩
      go_wp2
      go_ret
      exact ⟨ret_bool (by simp), p1⟩

-- PRE (printed by gen_pre.py of this folder)
set_option maxRecDepth 100000 in
set_option maxHeartbeats 800000 in
theorem walk_FnExactRead16Prefixed (w : World) (a : Option Addr) (n c : Nat) (xs : List Int) (hn : xs.length = n) (hb : BIn w w.heap.size a xs) (hx : Byt xs) (hc : n ≤ c) (hm : c ≤ maxLen) :
    Calls Try.prog 11 #[.slice a n c] w fun e w' => e = .returned (.bool true) ∧ Below w.heap.size w w' := by
  by_cases h0 : n ≤ 1048576
  · exact main_FnExactRead16Prefixed w a n c xs hn hb hx hc hm h0
  · by_cases hz : n ≤ 2147483647
    · go_enter Try.func11, Try.ntmps11
      go_wp2_with fail
      refine (fits_no a n c _ (by omega)).mono ?_
      rintro e w' ⟨rfl, rfl⟩
      go_wp2
      go_ret
      exact ⟨rfl, Below.refl _ _⟩
    · go_enter Try.func11, Try.ntmps11
      go_wp2
      go_ret
      exact ⟨rfl, Below.refl _ _⟩
end Go.Proofs.Ytcimjejbakgadaa
