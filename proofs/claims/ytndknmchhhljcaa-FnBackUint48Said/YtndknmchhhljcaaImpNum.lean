/- The contracts of the thin package's functions that add a number. (Printed by gen_addlaw.py.) -/
import Derived.Test.YtndknmchhhljcaaAddNum
namespace Go.Proofs.Ytndknmchhhljcaa
open Go.RowKit
set_option linter.unusedVariables false

set_option maxRecDepth 100000 in
set_option maxHeartbeats 800000 in
theorem iAddU8_any (v : Int) (w : World) (h0 : 0 ≤ v) (h1 : v ≤ 255) :
    Calls Try.prog 37 #[.int .i64 v] w (GotPost w ([v])) := by
  go_enter Try.func37, Try.ntmps37
  go_wp2_with fail
  obtain ⟨w1, hw1⟩ : ∃ w1, w1 = w.alloc (.cells (bCs (.slice none 0 0) 0 0 false (.pointer none)) 74) := ⟨_, rfl⟩
  have B1 := Bld.new w
  have B2 : w.heap.size ≤ w1.heap.size := by rw [hw1]; simp
  have F1 := (Fr.refl [] w).alloc (.cells (bCs (.slice none 0 0) 0 0 false (.pointer none)) 74)
  rw [← hw1] at B1 F1
  rw [show w.alloc (.cells #[.nilIface, .slice none 0 0, .bool false, .pointer none, .int .i64 0, .int .i64 0, .bool false, .pointer none] 74) = w1 from hw1.symm]
  have Hw := Lib.hid hw1
  clear hw1
  refine (addU8_any w.heap.size w.heap.size [] 0 0 false (.pointer none) none v w1 B1 (by simp) B2).mono ?_
  rintro e w2 ⟨rfl, rb, b1, b2, _⟩
  rw [List.nil_append] at b1
  have F2 : Fr [w.heap.size] w w2 := (F1.mono (by simp)).trans b2 (by simp)
  clear B1 B2 F1
  go_wp2_with fail
  refine (bytesOf_ok _ _ _ _ _ _ _ _ b1 (by first | (rw [bigB_len]; omega) | simp)).mono ?_
  rintro e w3 ⟨a, c, rfl, c1, c2, c3, c4⟩
  go_wp2
  go_ret2
  exact ⟨a, c, rfl, c1, c2, c3, (F2.below (B := w.heap.size) (by simp) (Nat.le_refl _)).trans (c4.mono F2.size)⟩

set_option maxRecDepth 100000 in
set_option maxHeartbeats 800000 in
theorem iAddU24_any (v : Int) (w : World) (h0 : 0 ≤ v) (h1 : v ≤ 4294967295) :
    Calls Try.prog 34 #[.int .i64 v] w (GotPost w (bigB 3 v)) := by
  go_enter Try.func34, Try.ntmps34
  go_wp2_with fail
  obtain ⟨w1, hw1⟩ : ∃ w1, w1 = w.alloc (.cells (bCs (.slice none 0 0) 0 0 false (.pointer none)) 74) := ⟨_, rfl⟩
  have B1 := Bld.new w
  have B2 : w.heap.size ≤ w1.heap.size := by rw [hw1]; simp
  have F1 := (Fr.refl [] w).alloc (.cells (bCs (.slice none 0 0) 0 0 false (.pointer none)) 74)
  rw [← hw1] at B1 F1
  rw [show w.alloc (.cells #[.nilIface, .slice none 0 0, .bool false, .pointer none, .int .i64 0, .int .i64 0, .bool false, .pointer none] 74) = w1 from hw1.symm]
  have Hw := Lib.hid hw1
  clear hw1
  refine (addU24_any w.heap.size w.heap.size [] 0 0 false (.pointer none) none v w1 B1 (by simp) B2 h0 h1).mono ?_
  rintro e w2 ⟨rfl, rb, b1, b2, _⟩
  rw [List.nil_append] at b1
  have F2 : Fr [w.heap.size] w w2 := (F1.mono (by simp)).trans b2 (by simp)
  clear B1 B2 F1
  go_wp2_with fail
  refine (bytesOf_ok _ _ _ _ _ _ _ _ b1 (by first | (rw [bigB_len]; omega) | simp)).mono ?_
  rintro e w3 ⟨a, c, rfl, c1, c2, c3, c4⟩
  go_wp2
  go_ret2
  exact ⟨a, c, rfl, c1, c2, c3, (F2.below (B := w.heap.size) (by simp) (Nat.le_refl _)).trans (c4.mono F2.size)⟩

set_option maxRecDepth 100000 in
set_option maxHeartbeats 800000 in
theorem iAddU48_any (v : Int) (w : World) (h0 : 0 ≤ v) (h1 : v ≤ 281474976710655) :
    Calls Try.prog 36 #[.int .i64 v] w (GotPost w (bigB 6 v)) := by
  go_enter Try.func36, Try.ntmps36
  go_wp2_with fail
  obtain ⟨w1, hw1⟩ : ∃ w1, w1 = w.alloc (.cells (bCs (.slice none 0 0) 0 0 false (.pointer none)) 74) := ⟨_, rfl⟩
  have B1 := Bld.new w
  have B2 : w.heap.size ≤ w1.heap.size := by rw [hw1]; simp
  have F1 := (Fr.refl [] w).alloc (.cells (bCs (.slice none 0 0) 0 0 false (.pointer none)) 74)
  rw [← hw1] at B1 F1
  rw [show w.alloc (.cells #[.nilIface, .slice none 0 0, .bool false, .pointer none, .int .i64 0, .int .i64 0, .bool false, .pointer none] 74) = w1 from hw1.symm]
  have Hw := Lib.hid hw1
  clear hw1
  refine (addU48_any w.heap.size w.heap.size [] 0 0 false (.pointer none) none v w1 B1 (by simp) B2 h0 h1).mono ?_
  rintro e w2 ⟨rfl, rb, b1, b2, _⟩
  rw [List.nil_append] at b1
  have F2 : Fr [w.heap.size] w w2 := (F1.mono (by simp)).trans b2 (by simp)
  clear B1 B2 F1
  go_wp2_with fail
  refine (bytesOf_ok _ _ _ _ _ _ _ _ b1 (by first | (rw [bigB_len]; omega) | simp)).mono ?_
  rintro e w3 ⟨a, c, rfl, c1, c2, c3, c4⟩
  go_wp2
  go_ret2
  exact ⟨a, c, rfl, c1, c2, c3, (F2.below (B := w.heap.size) (by simp) (Nat.le_refl _)).trans (c4.mono F2.size)⟩

end Go.Proofs.Ytndknmchhhljcaa
