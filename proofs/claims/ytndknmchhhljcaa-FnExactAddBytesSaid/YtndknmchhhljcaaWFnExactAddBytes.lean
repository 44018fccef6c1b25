/- The walk of laws.FnExactAddBytes. -/
import Derived.Test.YtndknmchhhljcaaAddNum
namespace Go.Proofs.Ytndknmchhhljcaa
open Go.RowKit
set_option linter.unusedVariables false

set_option maxRecDepth 100000 in
set_option maxHeartbeats 800000 in
theorem iAddBytes_any (a : Option Addr) (n c : Nat) (xs : List Int) (w : World) (hn : xs.length = n) (hb : BIn w w.heap.size a xs) (hl : n ≤ 4194304) :
    Calls Try.prog 32 #[.slice a n c] w (GotPost w xs) := by
  have Hn := Lib.hid hn
  have HB := Lib.hid hb
  clear hn hb
  go_enter Try.func32, Try.ntmps32
  go_wp2_with fail
  obtain ⟨w1, hw1⟩ : ∃ w1, w1 = w.alloc (.cells (bCs (.slice none 0 0) 0 0 false (.pointer none)) 74) := ⟨_, rfl⟩
  have B1 := Bld.new w
  have F1 := (Fr.refl [] w).alloc (.cells (bCs (.slice none 0 0) 0 0 false (.pointer none)) 74)
  rw [← hw1] at B1 F1
  rw [show w.alloc (.cells #[.nilIface, .slice none 0 0, .bool false, .pointer none, .int .i64 0, .int .i64 0, .bool false, .pointer none] 74) = w1 from hw1.symm]
  clear hw1
  have H1 := Lib.hid (F1.bin HB.out (by simp)).lt
  refine (copied_any a n c xs w1 Hn.out H1.out (by omega)).mono ?_
  rintro e w2 ⟨a1, c1, rfl, p1, p2, p3, p4, p5, p6⟩
  have B2 := B1.fr (Fr.of_below p5 []) (by simp) (by simp)
  have F2 : Fr [] w w2 := F1.trans (Fr.of_below p5 []) (by simp)
  go_wp2_with fail
  refine (addBytes_any w.heap.size w.heap.size [] xs 0 0 false (.pointer none) none a1 n c1 w2 B2 Hn.out p3 (by simp; omega) F2.size).mono ?_
  rintro e w3 ⟨rfl, rb, b1, b2, _⟩
  rw [List.nil_append] at b1
  have F3 : Fr [w.heap.size] w w3 := (F2.mono (by simp)).trans b2 (by simp)
  clear B1 B2 F1 F2 p4 p6
  go_wp2_with fail
  refine (bytesOf_ok _ _ _ _ _ _ _ _ b1 (by have := Hn.out; omega)).mono ?_
  rintro e w4 ⟨a, c, rfl, c1, c2, c3, c4⟩
  go_wp2
  go_ret2
  exact ⟨a, c, rfl, c1, c2, c3, (F3.below (B := w.heap.size) (by simp) (Nat.le_refl _)).trans (c4.mono F3.size)⟩

set_option maxRecDepth 100000 in
set_option maxHeartbeats 800000 in
theorem main_FnExactAddBytes (w : World) (a : Option Addr) (n c : Nat) (xs : List Int) (hn : xs.length = n) (hb : BIn w w.heap.size a xs) (hx : Byt xs) (hc : n ≤ c) (hm : c ≤ maxLen) (h0 : n ≤ 1048576) :
    Calls Try.prog 3 #[.slice a n c] w fun e w' => e = .returned (.bool true) ∧ Below w.heap.size w w' := by
  have K := Lib.hid (iAddBytes_any a n c xs w hn hb (by omega))
  have Hn := Lib.hid hn
  have HB := Lib.hid hb
  have Hx := Lib.hid hx
  clear hn hb hx
  go_enter Try.func3, Try.ntmps3
  go_wp2_with fail
  refine (fits_any a n c _ h0).mono ?_
  rintro e w' ⟨rfl, rfl⟩
  go_wp2_with fail
  refine K.out.mono ?_
  rintro e w1 ⟨a1, c1, rfl, p1, p2, p3, p4⟩
  rw [Hn.out]
  go_wp2_with fail
  refine (same_any a1 a n c1 n c xs xs w1 w1.heap.size Hn.out Hn.out p3 ((HB.out.below p4).lt) Hx.out Hx.out).mono ?_
  rintro e w2 ⟨rfl, rfl⟩
  go_wp2
  go_ret
  exact ⟨ret_bool (by simp), p4⟩

-- PRE (printed by gen_pre.py of this folder)
set_option maxRecDepth 100000 in
set_option maxHeartbeats 800000 in
theorem walk_FnExactAddBytes (w : World) (a : Option Addr) (n c : Nat) (xs : List Int) (hn : xs.length = n) (hb : BIn w w.heap.size a xs) (hx : Byt xs) (hc : n ≤ c) (hm : c ≤ maxLen) :
    Calls Try.prog 3 #[.slice a n c] w fun e w' => e = .returned (.bool true) ∧ Below w.heap.size w w' := by
  by_cases h0 : n ≤ 1048576
  · exact main_FnExactAddBytes w a n c xs hn hb hx hc hm h0
  · by_cases hz : n ≤ 2147483647
    · go_enter Try.func3, Try.ntmps3
      go_wp2_with fail
      refine (fits_no a n c _ (by omega)).mono ?_
      rintro e w' ⟨rfl, rfl⟩
      go_wp2
      go_ret
      exact ⟨rfl, Below.refl _ _⟩
    · go_enter Try.func3, Try.ntmps3
      go_wp2
      go_ret
      exact ⟨rfl, Below.refl _ _⟩
end Go.Proofs.Ytndknmchhhljcaa
