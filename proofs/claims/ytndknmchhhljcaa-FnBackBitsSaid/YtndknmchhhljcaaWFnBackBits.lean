/- The walk of laws.FnBackBits. (Printed by gen_laws3.py.) -/
import Derived.Test.YtndknmchhhljcaaWf
import Derived.Test.YtndknmchhhljcaaImpBits
namespace Go.Proofs.Ytndknmchhhljcaa
open Go.RowKit
set_option linter.unusedVariables false

set_option maxRecDepth 100000 in
set_option maxHeartbeats 800000 in
theorem main_FnBackBits (w : World) (b : Option Addr) (d e : Nat) (v : List Int) (hv : v.length = d) (hbv : BIn w w.heap.size b v) (hyv : Byt v) (hlv : d ≤ 1048576) (a : Option Addr) (n c : Nat) (xs : List Int) (hn : xs.length = n) (hb : BIn w w.heap.size a xs) (hx : Byt xs) (hl : n ≤ 1048576) :
    Calls Try.prog 24 #[.slice b d e, .slice a n c] w fun e w' => e = .returned (.bool true) ∧ Below w.heap.size w w' := by
  have K := Lib.hid (iBits w b d e v hv hbv (by omega))
  have E := Lib.hid (show bitRead (derWrap 3 (0 :: v) ++ xs) = some ((v, 8 * (d : Int)), xs) by
    refine bitRead_some (out := 0 :: v) (rest := xs) (p := (v, 8 * (d : Int))) ?_ ?_
    · rw [firstOf_derWrap (t := 3) (by omega) 3 (0 :: v) xs (by simp; omega) ((Byt.one (x := 0) (by omega) (by omega)).append hyv) hx, if_pos rfl]
    · rw [bitsVal_cons', if_neg (by simp <;> omega), hv]
      simp)
  have HbX := Lib.hid (show Byt (derWrap 3 (0 :: v)) from derWrap_byt (by omega) (by omega) ((Byt.one (x := 0) (by omega) (by omega)).append hyv))
  have HXl := Lib.hid (show (derWrap 3 (0 :: v)).length ≤ 2000000 by
    have := derWrap_len 3 (0 :: v)
    simp at this ⊢
    omega)
  have HV := Lib.hid hv
  have HBV := Lib.hid hbv
  have HYV := Lib.hid hyv
  clear hv hbv hyv
  generalize derWrap 3 (0 :: v) = X at *
  obtain ⟨m, hm⟩ : ∃ m, m = X.length := ⟨_, rfl⟩
  have Hm := Lib.hid hm.symm
  have Hn := Lib.hid hn
  have HB := Lib.hid hb
  have Hx := Lib.hid hx
  clear hn hb hx hm
  go_enter Try.func24, Try.ntmps24
  go_wp2_with fail
  refine K.out.mono ?_
  rintro e' w1 ⟨a1, c1, rfl, p1, p2, p3, p4⟩
  rw [Hm.out] at p1 ⊢
  go_wp2_with fail
  refine (behind_any a1 a m c1 n c X xs w1 Hm.out Hn.out p3 ((HB.out.below p4).lt) (by have := HXl.out; have := Hm.out; omega)).mono ?_
  rintro e' w2 ⟨a2, c2, rfl, q1, q2, q3, q4, _⟩
  have p24 := p4.trans (q4.mono p4.size)
  have hmn : (X ++ xs).length = m + n := by rw [List.length_append, Hm.out, Hn.out]
  have hml : m + n ≤ 4194304000 := by have := HXl.out; have := Hm.out; omega
  have R := Lib.hid (iReadBits_any a2 (m + n) c2 (X ++ xs) w2 hmn q3 (HbX.out.append Hx.out) hml)
  clear hmn hml
  go_wp2_with fail
  refine R.out.mono ?_
  intro e' w3 hq
  rw [E.out] at hq
  obtain ⟨a5, c5, a3, c3, rfl, _, _, _, _, r5, r3, r4⟩ := hq
  rw [Hn.out, HV.out]
  have p34 := p24.trans (r4.mono p24.size)
  go_wp2_with fail
  refine (same_any a5 b d c5 d e v v w3 w3.heap.size HV.out HV.out r5 ((HBV.out.below p34).lt) HYV.out HYV.out).mono ?_
  rintro e' w4 ⟨rfl, rfl⟩
  have zv : decide (v = v) = true := by simp
  rw [zv]
  go_wp2_with fail
  refine (same_any a3 a n c3 n c xs xs w3 w3.heap.size Hn.out Hn.out r3 ((HB.out.below p34).lt) Hx.out Hx.out).mono ?_
  rintro e' w4 ⟨rfl, rfl⟩
  go_wp2
  go_ret
  exact ⟨ret_bool (by simp), p34⟩

set_option maxRecDepth 100000 in
set_option maxHeartbeats 800000 in
theorem walk_FnBackBits (w : World) (b : Option Addr) (d e : Nat) (v : List Int) (hv : v.length = d) (hbv : BIn w w.heap.size b v) (hyv : Byt v) (hde : d ≤ e) (hem : e ≤ maxLen) (a : Option Addr) (n c : Nat) (xs : List Int) (hn : xs.length = n) (hb : BIn w w.heap.size a xs) (hx : Byt xs) (hc : n ≤ c) (hm : c ≤ maxLen) :
    Calls Try.prog 24 #[.slice b d e, .slice a n c] w fun e w' => e = .returned (.bool true) ∧ Below w.heap.size w w' := by
  by_cases z1 : d ≤ 2147483647
  · by_cases z2 : n ≤ 2147483647
    · by_cases h1 : d ≤ 1048576
      · by_cases h2 : n ≤ 1048576
        · exact main_FnBackBits w b d e v hv hbv hyv h1 a n c xs hn hb hx h2
        · clear hv hbv hyv hn hb hx
          go_enter Try.func24, Try.ntmps24
          go_wp2
          go_ret
          exact ⟨rfl, Below.refl _ _⟩
      · clear hv hbv hyv hn hb hx
        go_enter Try.func24, Try.ntmps24
        go_wp2
        go_ret
        exact ⟨rfl, Below.refl _ _⟩
    · clear hv hbv hyv hn hb hx
      go_enter Try.func24, Try.ntmps24
      go_wp2
      go_ret
      exact ⟨rfl, Below.refl _ _⟩
  · clear hv hbv hyv hn hb hx
    go_enter Try.func24, Try.ntmps24
    go_wp2
    go_ret
    exact ⟨rfl, Below.refl _ _⟩
end Go.Proofs.Ytndknmchhhljcaa
