/- The walk of laws.FnBack24Prefixed. (Printed by gen_preflaw.py.) -/
import Derived.Test.YtndknmchhhljcaaImpPref
import Derived.Test.YtndknmchhhljcaaImpPre
namespace Go.Proofs.Ytndknmchhhljcaa
open Go.RowKit
set_option linter.unusedVariables false

theorem pref_back24 (v xs : List Int) (h : v.length < 16777216) : prefOf ((bigB 3 v.length ++ v) ++ xs) 3 = some (v, xs) := by
  have e0 : (bigB 3 (v.length : Int)).length = 3 := bigB_len _ _
  have e1 : ((bigB 3 v.length ++ v) ++ xs).take 3 = bigB 3 v.length := by
    rw [List.append_assoc, List.take_append_of_le_length (by omega), List.take_of_length_le (by omega)]
  have e2 : num (bigB 3 (v.length : Int)) = v.length := by rw [bigB_num, Int.emod_eq_of_lt (by omega) (by simp only [Int.reducePow]; omega)]
  unfold prefOf
  rw [e1, e2, if_neg (by simp only [List.length_append]; omega)]
  have e3 : ((bigB 3 v.length ++ v) ++ xs).drop 3 = v ++ xs := by
    rw [List.append_assoc]
    conv => lhs; rw [← e0]
    rw [e0, List.drop_append, e0, List.drop_of_length_le (by omega)]
    simp
  rw [e3, Int.toNat_natCast, List.take_left, ← List.drop_drop, e3, List.drop_left]

set_option maxRecDepth 100000 in
set_option maxHeartbeats 800000 in
theorem main_FnBack24Prefixed (w : World) (a : Option Addr) (n c : Nat) (v : List Int) (hn : v.length = n) (hv : BIn w w.heap.size a v) (hyv : Byt v) (b : Option Addr) (m d : Nat) (xs : List Int) (hm : xs.length = m) (hb : BIn w w.heap.size b xs) (hx : Byt xs) (hl : n ≤ 1048576) (hl2 : m ≤ 1048576) (hlt : n < 16777216) :
    Calls Try.prog 19 #[.slice a n c, .slice b m d] w fun e w' => e = .returned (.bool true) ∧ Below w.heap.size w w' := by
  have K := Lib.hid (iAdd24P_ok a n c v w hn hv (by omega) (Nat.div_eq_of_lt (by simp only [Nat.reducePow]; omega)))
  have E := Lib.hid (pref_back24 v xs (by omega))
  rw [hn] at E
  have Hlen := Lib.hid (show (bigB 3 (n : Int) ++ v).length = 3 + n by rw [List.length_append, bigB_len, hn])
  have HbX := Lib.hid (show Byt (bigB 3 (n : Int) ++ v) from (bigB_byt _ _).append hyv)
  generalize bigB 3 (n : Int) ++ v = X at *
  have Hn := Lib.hid hn
  have HV := Lib.hid hv
  have HYV := Lib.hid hyv
  have Hm := Lib.hid hm
  have HB := Lib.hid hb
  have Hx := Lib.hid hx
  have hlt' : decide (16777216 ≤ (n : Int)) = false := by rw [decide_eq_false_iff_not]; omega
  clear hn hv hyv hm hb hx hlt
  go_enter Try.func19, Try.ntmps19
  go_wp2_with fail
  refine (fits_any a n c _ hl).mono ?_
  rintro e w' ⟨rfl, rfl⟩
  go_wp2_with fail
  refine (fits_any b m d _ hl2).mono ?_
  rintro e w' ⟨rfl, rfl⟩
  go_wp2_with fail
  refine K.out.mono ?_
  rintro e w1 ⟨a1, c1, rfl, p1, p2, p3, p4⟩
  rw [Hlen.out] at p1 ⊢
  go_wp2_with fail
  refine (behind_any a1 b (3 + n) c1 m d X xs w1 Hlen.out Hm.out p3 ((HB.out.below p4).lt) (by omega)).mono ?_
  rintro e w2 ⟨a2, c2, rfl, q1, q2, q3, q4, _⟩
  have p24 := p4.trans (q4.mono p4.size)
  go_wp2_with fail
  refine (iRead24P_any a2 (3 + n + m) c2 (X ++ xs) w2 (by rw [List.length_append, Hlen.out, Hm.out]) q3 (HbX.out.append Hx.out) (by omega)).mono ?_
  intro e w3 hq
  rw [E.out] at hq
  obtain ⟨a3, c3, a4, c4, rfl, _, _, _, _, r3, r4, p3'⟩ := hq
  rw [Hn.out, Hm.out]
  have p34 := p24.trans (p3'.mono p24.size)
  go_wp2_with fail
  refine (same_any a3 a n c3 n c v v w3 w3.heap.size Hn.out Hn.out r3 ((HV.out.below p34).lt) HYV.out HYV.out).mono ?_
  rintro e w4 ⟨rfl, rfl⟩
  have z1 : decide (v = v) = true := by simp
  rw [z1]
  go_wp2_with fail
  refine (same_any a4 b m c4 m d xs xs w3 w3.heap.size Hm.out Hm.out r4 ((HB.out.below p34).lt) Hx.out Hx.out).mono ?_
  rintro e w4 ⟨rfl, rfl⟩
  go_wp2
  go_ret
  exact ⟨ret_bool (by simp), p34⟩

set_option maxRecDepth 100000 in
set_option maxHeartbeats 800000 in
theorem walk_FnBack24Prefixed (w : World) (a : Option Addr) (n c : Nat) (v : List Int) (hn : v.length = n) (hv : BIn w w.heap.size a v) (hyv : Byt v) (hc : n ≤ c) (hmx : c ≤ maxLen) (b : Option Addr) (m d : Nat) (xs : List Int) (hm : xs.length = m) (hb : BIn w w.heap.size b xs) (hx : Byt xs) (hd : m ≤ d) (hmd : d ≤ maxLen) :
    Calls Try.prog 19 #[.slice a n c, .slice b m d] w fun e w' => e = .returned (.bool true) ∧ Below w.heap.size w w' := by
  by_cases z1 : n ≤ 2147483647
  · by_cases z2 : m ≤ 2147483647
    · by_cases hl : n ≤ 1048576
      · by_cases hl2 : m ≤ 1048576
        · by_cases hlt : n < 16777216
          · exact main_FnBack24Prefixed w a n c v hn hv hyv b m d xs hm hb hx hl hl2 hlt
          · have hlt' : decide (16777216 ≤ (n : Int)) = true := by rw [decide_eq_true_iff]; omega
            clear hlt
            clear hn hm hv hb hx hyv
            go_enter Try.func19, Try.ntmps19
            go_wp2_with fail
            refine (fits_any a n c _ hl).mono ?_
            rintro e w' ⟨rfl, rfl⟩
            go_wp2_with fail
            refine (fits_any b m d _ hl2).mono ?_
            rintro e w' ⟨rfl, rfl⟩
            go_wp2
            go_ret
            exact ⟨rfl, Below.refl _ _⟩
        · clear hn hm hv hb hx hyv
          go_enter Try.func19, Try.ntmps19
          go_wp2_with fail
          refine (fits_any a n c _ hl).mono ?_
          rintro e w' ⟨rfl, rfl⟩
          go_wp2_with fail
          refine (fits_no b m d _ (by omega)).mono ?_
          rintro e w' ⟨rfl, rfl⟩
          go_wp2
          go_ret
          exact ⟨rfl, Below.refl _ _⟩
      · clear hn hm hv hb hx hyv
        go_enter Try.func19, Try.ntmps19
        go_wp2_with fail
        refine (fits_no a n c _ (by omega)).mono ?_
        rintro e w' ⟨rfl, rfl⟩
        go_wp2
        go_ret
        exact ⟨rfl, Below.refl _ _⟩
    · clear hn hm hv hb hx hyv
      go_enter Try.func19, Try.ntmps19
      go_wp2
      go_ret
      exact ⟨rfl, Below.refl _ _⟩
  · clear hn hm hv hb hx hyv
    go_enter Try.func19, Try.ntmps19
    go_wp2
    go_ret
    exact ⟨rfl, Below.refl _ _⟩
end Go.Proofs.Ytndknmchhhljcaa
