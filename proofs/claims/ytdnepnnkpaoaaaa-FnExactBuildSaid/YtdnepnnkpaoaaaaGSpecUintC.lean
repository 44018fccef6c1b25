/- The contract of the reference's UintContents, whole. -/
import Derived.Test.YtdnepnnkpaoaaaaGSpecOct
namespace Go.Proofs.Ytdnepnnkpaoaaaa
open Go.RowKit
set_option linter.unusedVariables false

set_option maxRecDepth 100000 in
set_option maxHeartbeats 1600000 in
theorem uintContents_large (v : Int) (w : World) (h0 : 9223372036854775807 < v) (h1 : v < 18446744073709551616) :
    Calls Try.prog 97 #[.int .u64 v] w (OwnPost w (uintC v)) := by
  obtain ⟨i0, hi0, hz0, hz1, hz2⟩ := info_parts u8_info
  have E := Lib.hid (uintC_big h0 h1)
  have t1 : decide (v < 9223372036854775808) = false := by rw [decide_eq_false_iff_not]; omega
  generalize uintC v = X at *
  clear h0 h1
  go_enter Try.func97, Try.ntmps97
  go_wp2_with fail
  clear t1
  go_loopw [3, 4] (fun o i wr => ∃ j : Nat, j ≤ 8 ∧ i = .int .i64 j ∧ OwnB wr w.heap.size 5 o (0 :: bigB j (v / 256 ^ (8 - j))) ∧ Below w.heap.size w wr) (fun _ i _ => 8 - (intOf i).toNat)
  case atStart => exact ⟨0, by omega, rfl, OwnB.lit w w.heap.size [0] #[.int .u8 0] 1 rfl rfl (Nat.le_refl _) (by omega), (Below.refl _ _).alloc (Nat.le_refl _) _⟩
  case round =>
    obtain ⟨j, hj, rfl, hown, hbel⟩ := hrel
    obtain ⟨A, c, rfl, hc1, hc2, _⟩ := hown.form
    have hln : (0 :: bigB j (v / 256 ^ (8 - j))).length = j + 1 := by rw [List.length_cons, bigB_len]
    rw [hln] at hown hc1 ⊢
    have Hown := Lib.hid hown
    have Hbel := Lib.hid hbel
    have Hln := Lib.hid hln
    by_cases hlt : j < 8
    · have hlt' : (j : Int) ≤ 7 := by omega
      obtain ⟨X1, hX⟩ : ∃ X1, X1 = v / 2 ^ (56 - 8 * j) % 256 := ⟨_, rfl⟩
      have HX := Lib.hid (show 0 :: bigB (j + 1) (v / 256 ^ (8 - (j + 1))) = (0 :: bigB j (v / 256 ^ (8 - j))) ++ [X1] by
        rw [bigB_up v hlt, hX, List.cons_append, show 56 - 8 * j = 8 * (8 - (j + 1)) by omega, Int.pow_mul]; rfl)
      have hX' := Lib.hid hX
      have L := Lib.hid (show BIn (wr.alloc (.cells #[.int .u8 X1] 5)) (wr.heap.size + 1) (some ⟨wr.heap.size, 0, none⟩) [X1] from lit_bin wr [X1] #[.int .u8 X1] 1 rfl rfl (by omega))
      have O := Lib.hid (show OwnB (wr.alloc (.cells #[.int .u8 X1] 5)) w.heap.size 5 (.slice A (j + 1) c) (0 :: bigB j (v / 256 ^ (8 - j))) from hown.alloc _)
      have Hlt := Lib.hid hown.lt
      have C1 := Lib.hid (show (0 :: bigB j (v / 256 ^ (8 - j))).length + [X1].length ≤ 70368744177664 by rw [hln]; simp; omega)
      have C2 := Lib.hid (show w.heap.size ≤ (wr.alloc (.cells #[.int .u8 X1] 5)).heap.size by have := hbel.size; simp; omega)
      clear hown hbel hX hln
      rw [hX'.out] at L O C1 C2
      go_wp2_with (at_builtin; go_must (refine wpList_append_bytes _ rfl (.tmp 15) (.tmp 22) _ rfl w.heap.size 5 i0 _ Try.underlying22 hi0 hz0 hz1 hz2 rfl (.slice A (j + 1) c) _ rfl O.out _ _ 1 1 _ rfl rfl L.out C1.out C2.out ?_; intro A' c' w1 hown hg1 hat))
      go_roundw
      case rel =>
        rw [← hX'.out, ← HX.out] at hown
        refine ⟨j + 1, by omega, by go_num, ?_, ?_⟩
        · first | exact hown | (rw [Hln.out]; exact hown) | (rw [bigB_len]; exact hown)
        · exact (Hbel.out.alloc Hbel.out.size _).grown hg1 (by have := Hbel.out.size; simp; omega) (fun k hk => (Hlt.out k hk).1)
      case measure => simp [intOf]; omega
    · obtain rfl : j = 8 := by omega
      clear hown hbel hln
      go_wp2
      go_ret
      refine ownPost ?_ Hbel.out
      rw [E.out]
      have := Hown.out
      rw [show v / 256 ^ (8 - 8) = v by simp] at this
      exact this

theorem uintContents_any (v : Int) (w : World) (h0 : 0 ≤ v) (h1 : v < 18446744073709551616) :
    Calls Try.prog 97 #[.int .u64 v] w (OwnPost w (uintC v)) := by
  by_cases h : v ≤ 9223372036854775807
  · exact uintContents_small v w h0 h
  · exact uintContents_large v w (by omega) h1
end Go.Proofs.Ytdnepnnkpaoaaaa
