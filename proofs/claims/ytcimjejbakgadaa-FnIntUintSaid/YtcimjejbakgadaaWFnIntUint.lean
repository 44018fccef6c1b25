/- The walk of laws.FnIntUint. -/
import Derived.Test.YtcimjejbakgadaaLawInt
import Derived.Test.YtcimjejbakgadaaImpUint
import Derived.Test.YtcimjejbakgadaaSpec0
import Derived.Test.YtcimjejbakgadaaWFnIntTagged
namespace Go.Proofs.Ytcimjejbakgadaa
open Go.RowKit
set_option linter.unusedVariables false

theorem num_cons_lead {x : Int} {r : List Int} (h : 1 ≤ x) (h1 : x < 256) (hr : ∀ y ∈ r, 0 ≤ y ∧ y < 256) (k : Nat) (hk : r.length = k) : (256 : Int) ^ k * x ≤ num (x :: r) := by
  have hb : Byt (x :: r) := fun y hy => by
    rcases List.mem_cons.1 hy with rfl | hy
    · omega
    · exact hr y hy
  have hl := lead hb (by simp)
  have e : num (x :: r) / 256 ^ k = x := by simpa [hk] using hl
  have := Int.mul_ediv_self_le (x := num (x :: r)) (k := 256 ^ k) (by have : (0:Int) < 256 ^ k := Int.pow_pos (by omega); omega)
  rw [e] at this
  exact this

theorem int_uint {xs : List Int} (hx : Byt xs) :
    (∃ v rest, intRead xs 2 = some (v, rest) ∧ uintRead xs = some (v, rest) ∧ 0 ≤ v ∧ v ≤ 9223372036854775807) ∨
    (∃ v rest, intRead xs 2 = some (v, rest) ∧ uintRead xs = none ∧ v < 0) ∨
    (intRead xs 2 = none ∧ ∃ u rest, uintRead xs = some (u, rest) ∧ 9223372036854775808 ≤ u) ∨ (intRead xs 2 = none ∧ uintRead xs = none) := by
  unfold intRead uintRead
  cases hf : firstOf xs 2 with
  | none => exact .inr (.inr (.inr ⟨rfl, rfl⟩))
  | some p =>
    obtain ⟨out, rest⟩ := p
    simp only
    have ho : Byt out := by
      obtain ⟨b, k, _, ho, hr, h3, h4, _⟩ := firstOf_inv hf
      subst ho
      exact (hx.take _).drop _
    cases hi : isInteger out with
    | false => simp
    | true =>
      have hl0 : 0 < out.length := by cases out with | nil => simp [isInteger] at hi | cons => simp
      by_cases h8 : out.length ≤ 8
      · have hs := num_small out 8 ho h8
        by_cases hn : 128 ≤ out.getD 0 0
        · have hu : fitsU out = false := by unfold fitsU; have : ¬ out.getD 0 0 < 128 := by omega
                                            simp only [this, decide_false, Bool.and_false]
          have hv : sgn out < 0 := by
            have := (num_bound out ho).2
            unfold sgn; rw [if_pos hn]; omega
          rw [hu]
          simp [h8]
          exact hv
        · have hu : fitsU out = true := by
            unfold fitsU
            have h1 : out.getD 0 0 < 128 := by omega
            have h2 : ¬ out.length = 9 := by omega
            have h3 : out.length ≤ 9 := by omega
            simp only [h1, h2, h3, decide_true, decide_false, Bool.false_and, Bool.not_false, Bool.and_true]
          have hv : sgn out = num out := by unfold sgn; rw [if_neg hn]
          have hle : num out ≤ 9223372036854775807 := by
            have l1 := lead ho hl0
            have l2 : out.length - 1 ≤ 7 := by omega
            generalize out.length - 1 = m at *
            generalize out.getD 0 0 = x at *
            generalize num out = q at *
            have : m = 0 ∨ m = 1 ∨ m = 2 ∨ m = 3 ∨ m = 4 ∨ m = 5 ∨ m = 6 ∨ m = 7 := by omega
            rcases this with rfl | rfl | rfl | rfl | rfl | rfl | rfl | rfl <;> simp only [Int.reducePow] at * <;> omega
          rw [hu]
          refine .inl ⟨sgn out, rest, ?_, ?_, ?_, ?_⟩
          · rw [if_pos ⟨rfl, h8⟩]
          · rw [if_pos ⟨rfl, rfl⟩, hv]
          · rw [hv]; exact hs.1
          · rw [hv]; exact hle
      · rw [if_neg (by omega)]
        cases hu : fitsU out with
        | false => simp
        | true =>
          refine .inr (.inr (.inl ⟨rfl, num out, rest, by rw [if_pos ⟨rfl, rfl⟩], ?_⟩))
          have h9 : out.length = 9 ∧ out.getD 0 0 = 0 := by
            unfold fitsU at hu
            simp only [Bool.and_eq_true, decide_eq_true_eq, Bool.not_eq_true', Bool.and_eq_false_iff, decide_eq_false_iff_not] at hu
            obtain ⟨⟨u1, u2⟩, u3⟩ := hu
            have : out.length = 9 := by omega
            refine ⟨this, ?_⟩
            rcases u2 with u2 | u2
            · exact absurd this u2
            · exact Decidable.byContradiction fun h => u2 h
          match out, h9, hi, ho with
          | [], h9, _, _ => simp at h9
          | [x], h9, _, _ => simp at h9
          | x :: y :: r, h9, hi, ho =>
            have hx0 : x = 0 := by simpa using h9.2
            subst hx0
            have hy : 128 ≤ y := by
              simp [isInteger] at hi
              omega
            have := ho y (by simp)
            have hq := num_cons_lead (x := y) (r := r) (by omega) (by omega) (fun z hz => ho z (by simp [hz])) 7 (by simpa using h9.1)
            rw [num_zero]
            rw [show (256 : Int) ^ 7 = 72057594037927936 by rfl] at hq
            omega

set_option maxRecDepth 100000 in
set_option maxHeartbeats 1600000 in
theorem main_FnIntUint (w : World) (a : Option Addr) (n c : Nat) (xs : List Int) (hn : xs.length = n) (hb : BIn w w.heap.size a xs) (hx : Byt xs) (hc : n ≤ c) (hm : c ≤ maxLen) (h0 : n ≤ 1048576) :
    Calls Try.prog 29 #[.slice a n c] w fun e w' => e = .returned (.bool true) ∧ Below w.heap.size w w' := by
  have K := Lib.hid (iReadInt64_any a n c xs w hn hb hx (by omega))
  have K2 := Lib.hid (fun W (hB : Below w.heap.size w W) => iReadUint_any a n c xs W hn (hb.below hB).lt hx (by omega))
  have D := Lib.hid (fun W (hB : Below w.heap.size w W) => isInt_any a n c xs 2 w.heap.size W hn hc hm (hb.below hB) hB.size hx (by omega))
  have Hx := Lib.hid hx
  clear hn hb hx
  rcases int_uint Hx.out with ⟨v, rest, h1, h2, h3, h4⟩ | ⟨v, rest, h1, h2, h3⟩ | ⟨h1, u, rest, h2, h3⟩ | ⟨h1, h2⟩
  · have X2 := Lib.hid (intRead_byt h1 Hx.out).1
    have hw : IntKind.u64.wrap v = v := w64 h3 (by omega)
    rw [h1] at K D
    rw [h2] at K2
    clear h1 h2
    go_enter Try.func29, Try.ntmps29
    go_wp2_with fail
    refine (fits_any a n c _ h0).mono ?_
    rintro e w' ⟨rfl, rfl⟩
    go_wp2_with fail
    refine K.out.mono ?_
    rintro e w1 ⟨a1, c1, rfl, _, _, q3, p1⟩
    go_wp2_with fail
    refine (K2.out w1 p1).mono ?_
    rintro e w2 ⟨a2, c2, rfl, _, _, q4, p2⟩
    have p12 := p1.trans (p2.mono p1.size)
    go_wp2_with fail
    refine (D.out w2 p12).mono ?_
    rintro e w3 ⟨rfl, p3⟩
    have p13 := p12.trans (p3.mono p12.size)
    rw [show (some (v, rest) : Option (Int × List Int)).isSome = true from rfl]
    have t1 : decide (v < 0) = false := by simpa using h3
    have t2 : (IntKind.u64.wrap v == v) = true := by rw [hw]; simp
    go_wp2_with fail
    refine (same_any a1 a2 rest.length c1 rest.length c2 rest rest w3 w3.heap.size rfl rfl (((q3.below p2).lt.below p3).lt) ((q4.below p3).lt) X2.out X2.out).mono ?_
    rintro e w5 ⟨rfl, rfl⟩
    go_wp2
    go_ret
    exact ⟨ret_bool (by simp), p13⟩
  · rw [h1] at K D
    rw [h2] at K2
    clear h1 h2
    go_enter Try.func29, Try.ntmps29
    go_wp2_with fail
    refine (fits_any a n c _ h0).mono ?_
    rintro e w' ⟨rfl, rfl⟩
    go_wp2_with fail
    refine K.out.mono ?_
    rintro e w1 ⟨a1, c1, rfl, _, _, q3, p1⟩
    go_wp2_with fail
    refine (K2.out w1 p1).mono ?_
    rintro e w2 ⟨v3, v4, rfl, p2⟩
    have p12 := p1.trans (p2.mono p1.size)
    go_wp2_with fail
    refine (D.out w2 p12).mono ?_
    rintro e w3 ⟨rfl, p3⟩
    have p13 := p12.trans (p3.mono p12.size)
    rw [show (some (v, rest) : Option (Int × List Int)).isSome = true from rfl]
    go_wp2
    go_ret
    exact ⟨rfl, p13⟩
  · rw [h1] at K D
    rw [h2] at K2
    clear h1 h2
    go_enter Try.func29, Try.ntmps29
    go_wp2_with fail
    refine (fits_any a n c _ h0).mono ?_
    rintro e w' ⟨rfl, rfl⟩
    go_wp2_with fail
    refine K.out.mono ?_
    rintro e w1 ⟨v3, v4, rfl, p1⟩
    go_wp2_with fail
    refine (K2.out w1 p1).mono ?_
    rintro e w2 ⟨a2, c2, rfl, _, _, q4, p2⟩
    have p12 := p1.trans (p2.mono p1.size)
    go_wp2_with fail
    refine (D.out w2 p12).mono ?_
    rintro e w3 ⟨rfl, p3⟩
    have p13 := p12.trans (p3.mono p12.size)
    rw [show (none : Option (Int × List Int)).isSome = false from rfl]
    go_wp2
    go_ret
    exact ⟨rfl, p13⟩
  · rw [h1] at K D
    rw [h2] at K2
    clear h1 h2
    go_enter Try.func29, Try.ntmps29
    go_wp2_with fail
    refine (fits_any a n c _ h0).mono ?_
    rintro e w' ⟨rfl, rfl⟩
    go_wp2_with fail
    refine K.out.mono ?_
    rintro e w1 ⟨v3, v4, rfl, p1⟩
    go_wp2_with fail
    refine (K2.out w1 p1).mono ?_
    rintro e w2 ⟨v5, v6, rfl, p2⟩
    have p12 := p1.trans (p2.mono p1.size)
    go_wp2_with fail
    refine (D.out w2 p12).mono ?_
    rintro e w3 ⟨rfl, p3⟩
    have p13 := p12.trans (p3.mono p12.size)
    rw [show (none : Option (Int × List Int)).isSome = false from rfl]
    go_wp2
    go_ret
    exact ⟨rfl, p13⟩

-- PRE (printed by gen_pre.py of this folder)
set_option maxRecDepth 100000 in
set_option maxHeartbeats 800000 in
theorem walk_FnIntUint (w : World) (a : Option Addr) (n c : Nat) (xs : List Int) (hn : xs.length = n) (hb : BIn w w.heap.size a xs) (hx : Byt xs) (hc : n ≤ c) (hm : c ≤ maxLen) :
    Calls Try.prog 29 #[.slice a n c] w fun e w' => e = .returned (.bool true) ∧ Below w.heap.size w w' := by
  by_cases h0 : n ≤ 1048576
  · exact main_FnIntUint w a n c xs hn hb hx hc hm h0
  · by_cases hz : n ≤ 2147483647
    · go_enter Try.func29, Try.ntmps29
      go_wp2_with fail
      refine (fits_no a n c _ (by omega)).mono ?_
      rintro e w' ⟨rfl, rfl⟩
      go_wp2
      go_ret
      exact ⟨rfl, Below.refl _ _⟩
    · go_enter Try.func29, Try.ntmps29
      go_wp2
      go_ret
      exact ⟨rfl, Below.refl _ _⟩
end Go.Proofs.Ytcimjejbakgadaa
