/- The walk of laws.FnExactAddBits. (Printed by gen_laws4.py.) -/
import Derived.Test.YtndknmchhhljcaaSpecBig
import Derived.Test.YtndknmchhhljcaaImpDer
namespace Go.Proofs.Ytndknmchhhljcaa
open Go.RowKit
set_option linter.unusedVariables false

set_option maxRecDepth 100000 in
set_option maxHeartbeats 1600000 in
theorem main_FnExactAddBits (w : World) (a : Option Addr) (n c : Nat) (xs : List Int) (hn : xs.length = n) (hb : BIn w w.heap.size a xs) (hx : Byt xs) (hc : n ≤ c) (hm : c ≤ maxLen) (h0 : n ≤ 1048576) :
    Calls Try.prog 14 #[.slice a n c] w fun e w' => e = .returned (.bool true) ∧ Below w.heap.size w w' := by
  obtain ⟨i0, hi0, hz0, hz1, hz2⟩ := info_parts u8_info
  have K := Lib.hid (iBits w a n c xs hn hb (by omega))
  have W := Lib.hid (fun W b d (h : BIn W W.heap.size b ([0] ++ xs)) => wrapped_any 3 b (1 + n) d ([0] ++ xs) W (by omega) (by omega) (by omega) (by simp; omega) h)
  have HbX := Lib.hid (show Byt (derWrap 3 (0 :: xs)) from derWrap_byt (by omega) (by omega) ((Byt.one (x := 0) (by omega) (by omega)).append hx))
  rw [show [0] ++ xs = 0 :: xs from rfl] at W
  generalize derWrap 3 (0 :: xs) = X at *
  obtain ⟨m, hm'⟩ : ∃ m, m = X.length := ⟨_, rfl⟩
  have Hm := Lib.hid hm'.symm
  have Hn := Lib.hid hn
  have HB := Lib.hid hb
  clear hn hb hx hm'
  go_enter Try.func14, Try.ntmps14
  go_wp2_with fail
  refine (fits_any a n c _ h0).mono ?_
  rintro e w' ⟨rfl, rfl⟩
  go_wp2_with fail
  refine K.out.mono ?_
  rintro e w1 ⟨a1, c1, rfl, p1, p2, p3, p4⟩
  rw [Hm.out] at p1 ⊢
  have O1 := Lib.hid (OwnB.lit w1 w1.heap.size [0] #[.int .u8 0] 1 rfl rfl (Nat.le_refl _) (by omega))
  have S1 := Lib.hid (((Fr.refl [] w1).alloc (.cells #[.int .u8 0] 5)).bin ((HB.out.below p4).lt) (by simp))
  have C1 := Lib.hid (show [(0 : Int)].length + xs.length ≤ 70368744177664 by rw [Hn.out]; simp; omega)
  have P4 := Lib.hid p4
  go_wp2_with (at_builtin; go_must (refine wpList_append_bytes_w _ (by simp [Region.wanted, yielded]) (.tmp 19) (.tmp 20) _ rfl w1.heap.size 5 i0 _ Try.underlying22 hi0 hz0 hz1 hz2 rfl (.slice (some ⟨w1.heap.size, 0, none⟩) 1 1) _ rfl O1.out w1.heap.size a n c xs Hn.out rfl S1.out C1.out (by simp) ?_; intro A' c' w2 hown hg1 hat))
  have b12 : Below w1.heap.size w1 w2 := ((Below.refl _ _).alloc (Nat.le_refl _) _).grown hg1 (by simp) (fun k hk => by simp [Value.ownBlock] at hk; omega)
  have p24 := P4.out.trans (b12.mono P4.out.size)
  have L2 : ([0] ++ xs).length = [(0 : Int)].length + n := by rw [List.length_append, Hn.out]
  have q3 := hown.bin L2
  clear hown hat
  refine (W.out w2 A' c' q3).mono ?_
  rintro e w3 ⟨a3, c3, rfl, r1, r2, r3, r4, _⟩
  rw [Hm.out] at r1 ⊢
  have p34 := p24.trans (r4.mono p24.size)
  clear L2
  go_wp2_with fail
  refine (same_any a1 a3 m c1 m c3 X X w3 w3.heap.size Hm.out Hm.out ((p3.below (b12.trans (r4.mono b12.size))).lt) r3 HbX.out HbX.out).mono ?_
  rintro e w4 ⟨rfl, rfl⟩
  go_wp2
  go_ret
  exact ⟨ret_bool (by simp), p34⟩

-- PRE (printed by gen_pre.py of this folder)
set_option maxRecDepth 100000 in
set_option maxHeartbeats 800000 in
theorem walk_FnExactAddBits (w : World) (a : Option Addr) (n c : Nat) (xs : List Int) (hn : xs.length = n) (hb : BIn w w.heap.size a xs) (hx : Byt xs) (hc : n ≤ c) (hm : c ≤ maxLen) :
    Calls Try.prog 14 #[.slice a n c] w fun e w' => e = .returned (.bool true) ∧ Below w.heap.size w w' := by
  by_cases h0 : n ≤ 1048576
  · exact main_FnExactAddBits w a n c xs hn hb hx hc hm h0
  · by_cases hz : n ≤ 2147483647
    · go_enter Try.func14, Try.ntmps14
      go_wp2_with fail
      refine (fits_no a n c _ (by omega)).mono ?_
      rintro e w' ⟨rfl, rfl⟩
      go_wp2
      go_ret
      exact ⟨rfl, Below.refl _ _⟩
    · go_enter Try.func14, Try.ntmps14
      go_wp2
      go_ret
      exact ⟨rfl, Below.refl _ _⟩
end Go.Proofs.Ytndknmchhhljcaa
