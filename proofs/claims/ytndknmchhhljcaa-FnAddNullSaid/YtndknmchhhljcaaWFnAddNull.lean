/- The walk of laws.FnAddNull. -/
import Derived.Test.YtndknmchhhljcaaAddNum
import Derived.Test.YtndknmchhhljcaaImpAsn
namespace Go.Proofs.Ytndknmchhhljcaa
open Go.RowKit
set_option linter.unusedVariables false

set_option maxRecDepth 100000 in
set_option maxHeartbeats 800000 in
theorem iAddNull_any (w : World) :
    Calls Try.prog 42 #[] w (GotPost w [5, 0]) := by
  go_enter Try.func42, Try.ntmps42
  go_wp2_with fail
  obtain ⟨w1, hw1⟩ : ∃ w1, w1 = w.alloc (.cells (bCs (.slice none 0 0) 0 0 false (.pointer none)) 74) := ⟨_, rfl⟩
  have B1 := Bld.new w
  have B2 : w.heap.size ≤ w1.heap.size := by rw [hw1]; simp
  have F1 := (Fr.refl [] w).alloc (.cells (bCs (.slice none 0 0) 0 0 false (.pointer none)) 74)
  rw [← hw1] at B1 F1
  rw [show w.alloc (.cells #[.nilIface, .slice none 0 0, .bool false, .pointer none, .int .i64 0, .int .i64 0, .bool false, .pointer none] 74) = w1 from hw1.symm]
  have Hw := Lib.hid hw1
  clear hw1
  refine (addNull_any w.heap.size w.heap.size [] 0 0 false (.pointer none) none w1 B1 (by simp) B2).mono ?_
  rintro e w2 ⟨rfl, rb, b1, b2, _⟩
  rw [List.nil_append] at b1
  have F2 : Fr [w.heap.size] w w2 := (F1.mono (by simp)).trans b2 (by simp)
  clear B1 B2 F1
  go_wp2_with fail
  refine (bytesOf_ok _ _ _ _ _ _ _ _ b1 (by simp)).mono ?_
  rintro e w3 ⟨a, c, rfl, c1, c2, c3, c4⟩
  go_wp2
  go_ret2
  exact ⟨a, c, rfl, c1, c2, c3, (F2.below (B := w.heap.size) (by simp) (Nat.le_refl _)).trans (c4.mono F2.size)⟩

set_option maxRecDepth 100000 in
set_option maxHeartbeats 800000 in
theorem main_FnAddNull (w : World) (a : Option Addr) (n c : Nat) (xs : List Int) (hn : xs.length = n) (hb : BIn w w.heap.size a xs) (hx : Byt xs) (hc : n ≤ c) (hm : c ≤ maxLen) (h0 : n ≤ 1048576) :
    Calls Try.prog 10 #[.slice a n c] w fun e w' => e = .returned (.bool true) ∧ Below w.heap.size w w' := by
  have E := Lib.hid (show firstOf ([5, 0] ++ xs) 5 = some ([], xs) from firstOf_derWrap (t := 5) (by omega) 5 [] xs (by simp) Byt.nil hx)
  have Hn := Lib.hid hn
  have HB := Lib.hid hb
  have Hx := Lib.hid hx
  have H5 := Lib.hid (show Byt [5, 0] from fun x hx => by simp at hx; rcases hx with rfl | rfl <;> omega)
  have L0 : List.length [(5 : Int), 0] = 2 := rfl
  clear hn hb hx
  go_enter Try.func10, Try.ntmps10
  go_wp2_with fail
  refine (fits_any a n c _ h0).mono ?_
  rintro e w' ⟨rfl, rfl⟩
  go_wp2_with fail
  refine (iAddNull_any w).mono ?_
  rintro e w1 ⟨a1, c1, rfl, p1, p2, p3, p4⟩
  rw [L0] at p1 ⊢
  clear L0
  go_wp2_with fail
  refine (behind_any a1 a 2 c1 n c [5, 0] xs w1 rfl Hn.out p3 ((HB.out.below p4).lt) (by omega)).mono ?_
  rintro e w2 ⟨a2, c2, rfl, q1, q2, q3, q4, _⟩
  have p24 := p4.trans (q4.mono p4.size)
  go_wp2_with fail
  refine (iReadASN1_any a2 (2 + n) c2 ([5, 0] ++ xs) 5 w2 (by have := Hn.out; simp; omega) q3 (H5.out.append Hx.out) (by omega) (by omega) (by omega)).mono ?_
  intro e w3 hq
  rw [E.out] at hq
  obtain ⟨a3, c3, a4, c4, rfl, _, _, _, _, r3, r4, p3'⟩ := hq
  rw [Hn.out]
  have p34 := p24.trans (p3'.mono p24.size)
  go_wp2_with fail
  have S1 : BIn (w3.alloc (.cells #[.int .u8 5, .int .u8 0] 5)) (w3.heap.size + 1) (some ⟨w3.heap.size, 0, none⟩) [5, 0] := lit_bin w3 [5, 0] #[.int .u8 5, .int .u8 0] 2 rfl rfl (by omega)
  have F4 := (Fr.refl [] w3).alloc (.cells #[.int .u8 5, .int .u8 0] 5)
  have HF := Lib.hid F4
  have P4 := Lib.hid (p34.alloc p34.size (.cells #[.int .u8 5, .int .u8 0] 5))
  have Z1 := Lib.hid (F4.bin ((p3.below (q4.trans (p3'.mono q4.size))).lt) (by simp)).lt
  have Z4 := Lib.hid (F4.bin r4 (by simp)).lt
  have Z5 := Lib.hid (((HB.out.below p34).below ((F4.below (B := w.heap.size) (by simp) p34.size))).lt)
  have S1' := Lib.hid S1.lt
  clear S1 F4
  generalize w3.alloc (.cells #[.int .u8 5, .int .u8 0] 5) = w4 at *
  refine (same_any a1 _ 2 c1 2 2 [5, 0] [5, 0] w4 w4.heap.size rfl rfl Z1.out S1'.out H5.out H5.out).mono ?_
  rintro e w5 ⟨rfl, rfl⟩
  have z1 : decide (([5, 0] : List Int) = [5, 0]) = true := by simp
  rw [z1]
  go_wp2_with fail
  refine (same_any a4 a n c4 n c xs xs w4 w4.heap.size Hn.out Hn.out Z4.out Z5.out Hx.out Hx.out).mono ?_
  rintro e w5 ⟨rfl, rfl⟩
  go_wp2
  go_ret
  exact ⟨ret_bool (by simp), P4.out⟩

-- PRE (printed by gen_pre.py of this folder)
set_option maxRecDepth 100000 in
set_option maxHeartbeats 800000 in
theorem walk_FnAddNull (w : World) (a : Option Addr) (n c : Nat) (xs : List Int) (hn : xs.length = n) (hb : BIn w w.heap.size a xs) (hx : Byt xs) (hc : n ≤ c) (hm : c ≤ maxLen) :
    Calls Try.prog 10 #[.slice a n c] w fun e w' => e = .returned (.bool true) ∧ Below w.heap.size w w' := by
  by_cases h0 : n ≤ 1048576
  · exact main_FnAddNull w a n c xs hn hb hx hc hm h0
  · by_cases hz : n ≤ 2147483647
    · go_enter Try.func10, Try.ntmps10
      go_wp2_with fail
      refine (fits_no a n c _ (by omega)).mono ?_
      rintro e w' ⟨rfl, rfl⟩
      go_wp2
      go_ret
      exact ⟨rfl, Below.refl _ _⟩
    · go_enter Try.func10, Try.ntmps10
      go_wp2
      go_ret
      exact ⟨rfl, Below.refl _ _⟩
end Go.Proofs.Ytndknmchhhljcaa
