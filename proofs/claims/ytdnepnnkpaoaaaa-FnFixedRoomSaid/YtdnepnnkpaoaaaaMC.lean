/- Contracts of the reference's octets, IntContents and UintContents. -/
import Derived.Test.YtdnepnnkpaoaaaaSpecBig
import Derived.Test.YtdnepnnkpaoaaaaGClos
namespace Go.Proofs.Ytdnepnnkpaoaaaa
open Go.RowKit
set_option linter.unusedVariables false

set_option maxRecDepth 100000 in
set_option maxHeartbeats 1600000 in
theorem octets_any (v : Int) (w : World) (h0 : -9223372036854775808 ≤ v) (h1 : v ≤ 9223372036854775807) :
    Calls Try.prog 110 #[.int .i64 v] w (OwnPost w (intC v)) := by
  obtain ⟨i0, hi0, hz0, hz1, hz2⟩ := info_parts u8_info
  have H0 := Lib.hid h0
  have H1 := Lib.hid h1
  have R := Lib.hid (show intC v = bigB (intLen v) v from rfl)
  generalize intC v = X at *
  clear h0 h1
  go_enter Try.func110, Try.ntmps110
  go_wp2_with fail
  go_loopw [3, 4] (fun o n wr => ∃ (k : Nat) (u : Int), 1 ≤ k ∧ k ≤ 8 ∧ Hid (u = v / 256 ^ (k - 1)) ∧ k + intLen u = intLen v + 1 ∧ Hid (-9223372036854775808 ≤ u ∧ u ≤ 9223372036854775807) ∧ n = .int .i64 u ∧ OwnB wr w.heap.size 5 o (bigB k v) ∧ Below w.heap.size w wr) (fun _ n _ => intLen (intOf n))
  case atStart => exact ⟨1, v, by omega, by omega, (show v = v / 256 ^ 0 by simp), by omega, ⟨H0.out, H1.out⟩, rfl, OwnB.lit w w.heap.size [v % 256] #[.int .u8 (v % 256)] 1 rfl rfl (Nat.le_refl _) (by omega), (Below.refl _ _).alloc (Nat.le_refl _) _⟩
  case round =>
    obtain ⟨k, u, hk1, hk8, hu0, hk2, hu, rfl, hown, hbel⟩ := hrel
    obtain ⟨A, c, rfl, hc1, hc2, _⟩ := hown.form
    rw [bigB_len] at hown hc1 ⊢
    have Hown := Lib.hid hown
    have Hbel := Lib.hid hbel
    have HK2 := Lib.hid hk2
    have Hbl := Lib.hid (bigB_len k v)
    by_cases hin : -128 ≤ u ∧ u ≤ 127
    · have hu1 : intLen u = 1 := intLen_in hin
      have hkL := Lib.hid (show k = intLen v by omega)
      have t1 : decide ((127 : Int) < u) = false := by rw [decide_eq_false_iff_not]; omega
      have t2 : decide (u < -128) = false := by rw [decide_eq_false_iff_not]; omega
      clear hin hu1 hk2 hown hbel
      go_wp2_with fail
      go_ret
      refine ownPost ?_ Hbel.out
      rw [R.out, ← hkL.out]
      exact Hown.out
    · have hu1 := Lib.hid (intLen_out hu.out.1 hu.out.2 hin)
      have U := Lib.hid (show -9223372036854775808 ≤ u / 256 ∧ u / 256 ≤ 9223372036854775807 by have := hu.out; omega)
      have hv8 := Lib.hid (intLen_bd v)
      have hu8 := Lib.hid (intLen_bd (u / 256))
      have Q := Lib.hid (show u / 256 = v / 256 ^ (k + 1 - 1) by rw [hu0.out, Nat.add_sub_cancel]; obtain ⟨j, rfl⟩ : ∃ j, k = j + 1 := ⟨k - 1, by omega⟩; rw [Nat.add_sub_cancel, div_pow_succ'])
      have S := Lib.hid (show bigB (k + 1) v = [u / 256 % 256] ++ bigB k v by rw [bigB_cons]; have := Q.out; rw [Nat.add_sub_cancel] at this; rw [this]; rfl)
      have L := Lib.hid (show OwnB (wr.alloc (.cells #[.int .u8 (u / 256 % 256)] 5)) w.heap.size 5 (.slice (some ⟨wr.heap.size, 0, none⟩) 1 1) [u / 256 % 256] from OwnB.lit wr w.heap.size [u / 256 % 256] #[.int .u8 (u / 256 % 256)] 1 rfl rfl hbel.size (by omega))
      have S1 := Lib.hid (show BIn (wr.alloc (.cells #[.int .u8 (u / 256 % 256)] 5)) wr.heap.size A (bigB k v) from ((Fr.refl [] wr).alloc _).bin (Hown.out.bin Hbl.out) (by simp))
      have C1 := Lib.hid (show [u / 256 % 256].length + (bigB k v).length ≤ 70368744177664 by rw [Hbl.out]; simp; omega)
      have hor : (127 : Int) < u ∨ (¬ (127 : Int) < u ∧ u < -128) := by omega
      clear hin hk2 hown hbel
      rcases hor with t1 | ⟨t1, t2⟩
      all_goals
        go_wp2_with (at_builtin; go_must (refine wpList_append_bytes _ rfl (.tmp 19) (.tmp 20) _ rfl w.heap.size 5 i0 _ Try.underlying22 hi0 hz0 hz1 hz2 rfl (.slice (some ⟨wr.heap.size, 0, none⟩) 1 1) _ rfl L.out _ A k c _ Hbl.out rfl S1.out C1.out (by have := Hbel.out.size; simp; omega) ?_; intro A' c' w1 hown hg1 hat))
        go_roundw
        case rel =>
          rw [← S.out] at hown
          refine ⟨k + 1, u / 256, by omega, by have := hu1.out; have := HK2.out; have := hv8.out; have := hu8.out; omega, Q.out, by have := hu1.out; have := HK2.out; omega, U.out, rfl, ?_, ?_⟩
          · exact hown
          · exact (Hbel.out.alloc Hbel.out.size _).grown hg1 (by have := Hbel.out.size; simp; omega) (fun k hk => by simp [Value.ownBlock] at hk; have := Hbel.out.size; omega)
        case measure => have := hu1.out; simp [intOf]; omega

theorem intContents_any (v : Int) (w : World) (h0 : -9223372036854775808 ≤ v) (h1 : v ≤ 9223372036854775807) :
    Calls Try.prog 96 #[.int .i64 v] w (OwnPost w (intC v)) := by
  have H := Lib.hid (octets_any v w h0 h1)
  clear h0 h1
  go_enter Try.func96, Try.ntmps96
  go_wp2_with fail
  refine H.out.mono ?_
  rintro e w1 ⟨a, c, rfl, hq⟩
  have hq' := Lib.hid hq
  clear hq
  go_wp2
  go_ret
  exact ⟨a, c, rfl, hq'.out⟩

def Big63 : Int := 9223372036854775808
theorem uintC_big {v : Int} (h0 : 9223372036854775807 < v) (h1 : v < 18446744073709551616) : uintC v = 0 :: bigB 8 v := by
  have e : uintLen v = 9 := by have := uintLen_cases v; omega
  unfold uintC
  rw [e, bigB_cons]
  congr 1
  simp only [Int.reducePow]
  omega
set_option maxRecDepth 100000 in
set_option maxHeartbeats 1600000 in
theorem uintContents_small (v : Int) (w : World) (h0 : 0 ≤ v) (h1 : v ≤ 9223372036854775807) :
    Calls Try.prog 97 #[.int .u64 v] w (OwnPost w (uintC v)) := by
  have H := Lib.hid (octets_any v w (by omega) h1)
  have E := Lib.hid (show uintC v = intC v by unfold uintC intC; rw [uintLen_intLen h0 h1])
  have t1 : decide (v < 9223372036854775808) = true := by rw [decide_eq_true_iff]; omega
  have t2 : wrap64 v = v := by unfold wrap64; omega
  clear h0 h1
  go_enter Try.func97, Try.ntmps97
  go_wp2_with fail
  refine H.out.mono ?_
  rintro e w1 ⟨a, c, rfl, hq⟩
  have hq' := Lib.hid hq
  clear hq
  go_wp2
  go_ret
  rw [E.out]
  exact ⟨a, c, rfl, hq'.out⟩
end Go.Proofs.Ytdnepnnkpaoaaaa

namespace Go.Proofs.Ytdnepnnkpaoaaaa
open Go.RowKit
set_option linter.unusedVariables false

set_option maxRecDepth 100000 in
set_option maxHeartbeats 1600000 in
theorem uintContents_large (v : Int) (w : World) (h0 : 9223372036854775807 < v) (h1 : v < 18446744073709551616) :
    Calls Try.prog 97 #[.int .u64 v] w (OwnPost w (uintC v)) := by
  obtain ⟨i0, hi0, hz0, hz1, hz2⟩ := info_parts u8_info
  have E := Lib.hid (uintC_big h0 h1)
  have t1 : decide (v < 9223372036854775808) = false := by rw [decide_eq_false_iff_not]; omega
  generalize uintC v = X at *
  clear h0 h1
  go_enter Try.func97, Try.ntmps97
  go_wp2_with fail
  clear t1
  go_loopw [3, 4] (fun o i wr => ∃ j : Nat, j ≤ 8 ∧ i = .int .i64 j ∧ OwnB wr w.heap.size 5 o (0 :: bigB j (v / 256 ^ (8 - j))) ∧ Below w.heap.size w wr) (fun _ i _ => 8 - (intOf i).toNat)
  case atStart => exact ⟨0, by omega, rfl, OwnB.lit w w.heap.size [0] #[.int .u8 0] 1 rfl rfl (Nat.le_refl _) (by omega), (Below.refl _ _).alloc (Nat.le_refl _) _⟩
  case round =>
    obtain ⟨j, hj, rfl, hown, hbel⟩ := hrel
    obtain ⟨A, c, rfl, hc1, hc2, _⟩ := hown.form
    have hln : (0 :: bigB j (v / 256 ^ (8 - j))).length = j + 1 := by rw [List.length_cons, bigB_len]
    rw [hln] at hown hc1 ⊢
    have Hown := Lib.hid hown
    have Hbel := Lib.hid hbel
    have Hln := Lib.hid hln
    by_cases hlt : j < 8
    · have hlt' : (j : Int) ≤ 7 := by omega
      obtain ⟨X1, hX⟩ : ∃ X1, X1 = v / 2 ^ (56 - 8 * j) % 256 := ⟨_, rfl⟩
      have HX := Lib.hid (show 0 :: bigB (j + 1) (v / 256 ^ (8 - (j + 1))) = (0 :: bigB j (v / 256 ^ (8 - j))) ++ [X1] by
        rw [bigB_up v hlt, hX, List.cons_append, show 56 - 8 * j = 8 * (8 - (j + 1)) by omega, Int.pow_mul]; rfl)
      have hX' := Lib.hid hX
      have L := Lib.hid (show BIn (wr.alloc (.cells #[.int .u8 X1] 5)) (wr.heap.size + 1) (some ⟨wr.heap.size, 0, none⟩) [X1] from lit_bin wr [X1] #[.int .u8 X1] 1 rfl rfl (by omega))
      have O := Lib.hid (show OwnB (wr.alloc (.cells #[.int .u8 X1] 5)) w.heap.size 5 (.slice A (j + 1) c) (0 :: bigB j (v / 256 ^ (8 - j))) from hown.alloc _)
      have Hlt := Lib.hid hown.lt
      have C1 := Lib.hid (show (0 :: bigB j (v / 256 ^ (8 - j))).length + [X1].length ≤ 70368744177664 by rw [hln]; simp; omega)
      have C2 := Lib.hid (show w.heap.size ≤ (wr.alloc (.cells #[.int .u8 X1] 5)).heap.size by have := hbel.size; simp; omega)
      clear hown hbel hX hln
      rw [hX'.out] at L O C1 C2
      go_wp2_with (at_builtin; go_must (refine wpList_append_bytes _ rfl (.tmp 15) (.tmp 22) _ rfl w.heap.size 5 i0 _ Try.underlying22 hi0 hz0 hz1 hz2 rfl (.slice A (j + 1) c) _ rfl O.out _ _ 1 1 _ rfl rfl L.out C1.out C2.out ?_; intro A' c' w1 hown hg1 hat))
      go_roundw
      case rel =>
        rw [← hX'.out, ← HX.out] at hown
        refine ⟨j + 1, by omega, by go_num, ?_, ?_⟩
        · first | exact hown | (rw [Hln.out]; exact hown) | (rw [bigB_len]; exact hown)
        · exact (Hbel.out.alloc Hbel.out.size _).grown hg1 (by have := Hbel.out.size; simp; omega) (fun k hk => (Hlt.out k hk).1)
      case measure => simp [intOf]; omega
    · obtain rfl : j = 8 := by omega
      clear hown hbel hln
      go_wp2
      go_ret
      refine ownPost ?_ Hbel.out
      rw [E.out]
      have := Hown.out
      rw [show v / 256 ^ (8 - 8) = v by simp] at this
      exact this

theorem uintContents_any (v : Int) (w : World) (h0 : 0 ≤ v) (h1 : v < 18446744073709551616) :
    Calls Try.prog 97 #[.int .u64 v] w (OwnPost w (uintC v)) := by
  by_cases h : v ≤ 9223372036854775807
  · exact uintContents_small v w h0 h
  · exact uintContents_large v w (by omega) h1
end Go.Proofs.Ytdnepnnkpaoaaaa
