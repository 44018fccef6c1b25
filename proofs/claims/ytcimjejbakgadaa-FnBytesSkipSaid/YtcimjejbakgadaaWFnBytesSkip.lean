/- The walk of laws.FnBytesSkip. -/
import Derived.Test.YtcimjejbakgadaaImpBytes
import Derived.Test.YtcimjejbakgadaaRead3
namespace Go.Proofs.Ytcimjejbakgadaa
open Go.RowKit
set_option linter.unusedVariables false

set_option maxRecDepth 100000 in
set_option maxHeartbeats 1600000 in
theorem main_FnBytesSkip (w : World) (a : Option Addr) (n c : Nat) (xs : List Int) (hn : xs.length = n) (hb : BIn w w.heap.size a xs) (hx : Byt xs) (hc : n ≤ c) (hm : c ≤ maxLen) (h0 : n ≤ 1048576) (k : Int) (hp : 0 < n ∨ k ≠ 0) :
    Calls Try.prog 10 #[.slice a n c, .int .i64 k] w fun e w' => e = .returned (.bool true) ∧ Below w.heap.size w w' := by
  have K := Lib.hid (iReadBytes_any a n c xs k w hn hb hx (by omega) hp)
  have D := Lib.hid (fun W (hB : Below w.heap.size w W) => iSkip_any a n c xs k W hn ((hb.below hB).more hB.size) (by omega) hp)
  have Hx := Lib.hid hx
  have Hb := Lib.hid hb
  have Hn := Lib.hid hn
  by_cases hk : 0 ≤ k ∧ k ≤ n
  · obtain ⟨j, rfl⟩ := Int.eq_ofNat_of_zero_le hk.1
    obtain ⟨out, hout⟩ : ∃ out, xs.take j = out := ⟨_, rfl⟩
    obtain ⟨rest, hrest⟩ : ∃ rest, xs.drop j = rest := ⟨_, rfl⟩
    have Hf := Lib.hid (show cutOf n xs (j : Int) = some (out, rest) by rw [cutOf, if_pos hk, Int.toNat_natCast, hout, hrest])
    have Hr := Lib.hid (show Byt rest by rw [← hrest]; exact hx.drop _)
    have Hj := Lib.hid (show out ++ rest = xs by rw [← hout, ← hrest]; exact List.take_append_drop j xs)
    have hj : j ≤ n := by omega
    have Lo := Lib.hid (show out.length = j by rw [← hout, List.length_take]; omega)
    have Lr := Lib.hid (show rest.length = n - j by rw [← hrest, List.length_drop, hn])
    have t1 : (j = 0 ∧ 0 < n) ∨ 0 < j := by omega
    have t3 : (j : Int) ≤ (n : Int) := by omega
    clear hb hx hn hk hout hrest hp
    rcases t1 with ⟨rfl, t1⟩ | t1
    all_goals (
      first | (have t2 : ((n : Int) == 0) = false := by simp; omega) | skip
      first | (have t4 : ((j : Int) == 0) = false := by simp; omega) | skip
      go_enter Try.func10, Try.ntmps10
      go_wp2_with fail
      refine (fits_any _ _ c _ h0).mono ?_
      rintro e w' ⟨rfl, rfl⟩
      go_wp2_with fail
      refine K.out.mono ?_
      intro e w1 hq
      unfold TwoOf at hq
      rw [Hf.out] at hq
      obtain ⟨a1, c1, a2, c2, rfl, _, _, _, _, q3, q4, p1⟩ := hq
      rw [Lo.out, Lr.out]
      go_wp2_with fail
      refine (D.out w1 p1).mono ?_
      intro e w2 hq
      unfold OneOf at hq
      rw [Hf.out] at hq
      obtain ⟨a3, c3, rfl, r1, r2, r3, p2⟩ := hq
      rw [Lr.out]
      have p12 := p1.trans (p2.mono p1.size)
      go_wp2_with fail
      refine (same_any a2 a3 _ c2 _ c3 rest rest w2 w2.heap.size Lr.out Lr.out ((q4.below p2).lt) r3 Hr.out Hr.out).mono ?_
      rintro e w3 ⟨rfl, rfl⟩
      have z1 : decide (rest = rest) = true := by simp
      rw [z1]
      go_wp2_with fail
      refine (behind_any a1 a2 _ c1 _ c2 out rest w2 Lo.out Lr.out ((q3.below p2).lt) ((q4.below p2).lt) (by omega)).mono ?_
      rintro e w4 ⟨a5, c5, rfl, s1, s2, s3, p4, _⟩
      have p14 := p12.trans (p4.mono p12.size)
      go_wp2_with fail
      refine (same_any a5 a _ c5 n c xs xs w4 w4.heap.size (by have := Hn.out; omega) Hn.out (by rw [← Hj.out]; exact s3) ((Hb.out.below p14).lt) Hx.out Hx.out).mono ?_
      rintro e w5 ⟨rfl, rfl⟩
      go_wp2
      go_ret
      exact ⟨ret_bool (by simp), p14⟩)
  · have Hf := Lib.hid (show cutOf n xs k = none by rw [cutOf, if_neg hk])
    have hk' : k < 0 ∨ (0 < k ∧ (n : Int) < k) := by omega
    clear hb hx hn hk hp
    rcases hk' with h1 | ⟨h1, h2⟩
    all_goals (
      have t4 : ((k : Int) == 0) = false := by simp; omega
      go_enter Try.func10, Try.ntmps10
      go_wp2_with fail
      refine (fits_any _ _ c _ h0).mono ?_
      rintro e w' ⟨rfl, rfl⟩
      go_wp2_with fail
      refine K.out.mono ?_
      intro e w1 hq
      unfold TwoOf at hq
      rw [Hf.out] at hq
      obtain ⟨v1, v2, rfl, p1⟩ := hq
      go_wp2_with fail
      refine (D.out w1 p1).mono ?_
      intro e w2 hq
      unfold OneOf at hq
      rw [Hf.out] at hq
      obtain ⟨v3, rfl, p2⟩ := hq
      go_wp2
      go_ret
      first | exact ⟨rfl, p1.trans (p2.mono p1.size)⟩ | exact ⟨ret_bool (by simp; omega), p1.trans (p2.mono p1.size)⟩)

set_option maxRecDepth 100000 in
set_option maxHeartbeats 800000 in
theorem walk_FnBytesSkip (w : World) (a : Option Addr) (n c : Nat) (xs : List Int) (hn : xs.length = n) (hb : BIn w w.heap.size a xs) (hx : Byt xs) (hc : n ≤ c) (hm : c ≤ maxLen) (k : Int) (wk : (Lit.int .i64 k).wf = true) :
    Calls Try.prog 10 #[.slice a n c, .int .i64 k] w fun e w' => e = .returned (.bool true) ∧ Below w.heap.size w w' := by
  clear wk
  by_cases h0 : n ≤ 1048576
  · by_cases hp : 0 < n ∨ k ≠ 0
    · exact main_FnBytesSkip w a n c xs hn hb hx hc hm h0 k hp
    · obtain rfl : k = 0 := by omega
      obtain rfl : n = 0 := by omega
      go_enter Try.func10, Try.ntmps10
      go_wp2_with fail
      refine (fits_any _ _ c _ h0).mono ?_
      rintro e w' ⟨rfl, rfl⟩
      go_wp2
      go_ret
      exact ⟨rfl, Below.refl _ _⟩
  · by_cases hz : n ≤ 2147483647
    · go_enter Try.func10, Try.ntmps10
      go_wp2_with fail
      refine (fits_no a n c _ (by omega)).mono ?_
      rintro e w' ⟨rfl, rfl⟩
      go_wp2
      go_ret
      exact ⟨rfl, Below.refl _ _⟩
    · go_enter Try.func10, Try.ntmps10
      go_wp2
      go_ret
      exact ⟨rfl, Below.refl _ _⟩
end Go.Proofs.Ytcimjejbakgadaa
