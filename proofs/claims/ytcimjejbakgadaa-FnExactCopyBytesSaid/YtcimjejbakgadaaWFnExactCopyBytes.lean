/- The walk of laws.FnExactCopyBytes. -/
import Derived.Test.YtcimjejbakgadaaCopyB
import Derived.Test.YtcimjejbakgadaaSpec0
namespace Go.Proofs.Ytcimjejbakgadaa
open Go.RowKit
set_option linter.unusedVariables false

/-- 's[:k]' of bytes. -/
theorem sl_to (a : Option Addr) (n c : Nat) (k : Int) (m : Nat) (hk : k = m) (hn : m ≤ c) (w : World) :
    (Instr.sliceAt 24 (.slice a n c) none (some (.int .i64 k)) none).run Try.prog w = .ok (.slice a m c) w := by
  subst hk
  have ht : Try.prog.underlying 24 = some (.slice (Try.prog.elem 24)) := by kernel_rfl
  have hs : ∀ w, (sizeOf (Try.prog.elem 24)).run Try.prog w = .ok 1 w := fun w => by kernel_rfl
  rw [run_sliceAt_slice w _ _ _ _ _ ht, run_slice_h w _ a n c ht _ _ (by omega) (by omega), hs]
  simp [Result.andThen, sliced]
  intro _
  cases a with
  | none => rfl
  | some x =>
    obtain ⟨b, o, s⟩ := x
    cases s <;> simp [Addr.add]

set_option maxRecDepth 100000 in
set_option maxHeartbeats 1600000 in
theorem main_FnExactCopyBytes (w : World) (a A : Option Addr) (n c m C : Nat) (xs zs : List Int) (hn : xs.length = n) (hb : BIn w w.heap.size a xs) (hx : Byt xs) (hc : n ≤ c) (hm : c ≤ maxLen) (hz : zs.length = m) (hzb : BIn w w.heap.size A zs) (hmC : m ≤ C) (hC : C ≤ maxLen) (h0 : n ≤ 1048576) (h1 : m ≤ 1048576) (hp : 0 < n ∨ 0 < m) :
    Calls Try.prog 6 #[.slice a n c, .slice A m C] w fun e w' => e = .returned (.bool true) ∧ Below w.heap.size w w' := by
  have K := Lib.hid (iCopy_any a A n c m C xs zs w hn hb hx (by omega) hz hzb (by omega) hp)
  have Hx := Lib.hid hx
  have Hb := Lib.hid hb
  have Hn := Lib.hid hn
  clear hb hx hn hz hzb
  have ht : (m = 0 ∧ 0 < n) ∨ 0 < m := by omega
  by_cases hmn : m ≤ n
  · rcases ht with ⟨rfl, ht⟩ | ht
    · have t5 : ((n : Int) == 0) = false := by simp; omega
      obtain ⟨out, hout⟩ : ∃ out, xs.take 0 = out := ⟨_, rfl⟩
      obtain ⟨rest, hrest⟩ : ∃ rest, xs.drop 0 = rest := ⟨_, rfl⟩
      have Hf := Lib.hid (show cutOf n xs ((0 : Nat) : Int) = some (out, rest) by rw [cutOf, if_pos (by omega), Int.toNat_natCast, hout, hrest])
      have Hbo := Lib.hid (show BIn w w.heap.size a out by rw [← hout]; exact Hb.out.take 0)
      have Hbr := Lib.hid (show BIn w w.heap.size (cutA a c 0) rest by rw [← hrest]; exact Hb.out.cut (by have := Hn.out; omega))
      have Ho := Lib.hid (show Byt out by rw [← hout]; exact Hx.out.take _)
      have Hr := Lib.hid (show Byt rest by rw [← hrest]; exact Hx.out.drop _)
      have Lo := Lib.hid (show out.length = 0 by rw [← hout, List.length_take]; have := Hn.out; omega)
      have Lr := Lib.hid (show rest.length = n - 0 by rw [← hrest, List.length_drop, Hn.out])
      have t1 := sl_to a n c 0 0 rfl (by omega)
      have t2 := sl_from a n c (0 : Int) 0 rfl hmn
      clear hout hrest
      go_enter Try.func6, Try.ntmps6
      go_wp2_with fail
      refine (fits_any _ _ c _ h0).mono ?_
      rintro e w' ⟨rfl, rfl⟩
      go_wp2_with fail
      refine (fits_any _ _ C _ h1).mono ?_
      rintro e w' ⟨rfl, rfl⟩
      go_wp2_with fail
      refine K.out.mono ?_
      intro e w1 hq
      unfold TwoOf at hq
      rw [Hf.out] at hq
      obtain ⟨a1, c1, a2, c2, rfl, _, _, _, _, q3, q4, p1⟩ := hq
      rw [Lo.out, Lr.out]
      go_wp2_with fail
      refine (same_any a1 a 0 c1 0 c out out w1 w1.heap.size Lo.out Lo.out q3 (Hbo.out.below p1).lt Ho.out Ho.out).mono ?_
      rintro e w2 ⟨rfl, rfl⟩
      have z1 : decide (out = out) = true := by simp
      rw [z1]
      go_wp2_with fail
      refine (same_any a2 (cutA a c 0) _ c2 (n - 0) (c - 0) rest rest w1 w1.heap.size Lr.out Lr.out q4 (Hbr.out.below p1).lt Hr.out Hr.out).mono ?_
      rintro e w3 ⟨rfl, rfl⟩
      have z2 : decide (rest = rest) = true := by simp
      rw [z2]
      go_wp2
      go_ret
      exact ⟨ret_bool (by simp), p1⟩
    · have t0 : ((m : Int) == 0) = false := by simp; omega
      obtain ⟨out, hout⟩ : ∃ out, xs.take m = out := ⟨_, rfl⟩
      obtain ⟨rest, hrest⟩ : ∃ rest, xs.drop m = rest := ⟨_, rfl⟩
      have Hf := Lib.hid (show cutOf n xs (m : Int) = some (out, rest) by rw [cutOf, if_pos (by omega), Int.toNat_natCast, hout, hrest])
      have Hbo := Lib.hid (show BIn w w.heap.size a out by rw [← hout]; exact Hb.out.take m)
      have Hbr := Lib.hid (show BIn w w.heap.size (cutA a c m) rest by rw [← hrest]; exact Hb.out.cut (by have := Hn.out; omega))
      have Ho := Lib.hid (show Byt out by rw [← hout]; exact Hx.out.take _)
      have Hr := Lib.hid (show Byt rest by rw [← hrest]; exact Hx.out.drop _)
      have Lo := Lib.hid (show out.length = m by rw [← hout, List.length_take]; have := Hn.out; omega)
      have Lr := Lib.hid (show rest.length = n - m by rw [← hrest, List.length_drop, Hn.out])
      have t1 := sl_to a n c (m : Int) m rfl (by omega)
      have t2 := sl_from a n c (m : Int) m rfl hmn
      clear hout hrest
      go_enter Try.func6, Try.ntmps6
      go_wp2_with fail
      refine (fits_any _ _ c _ h0).mono ?_
      rintro e w' ⟨rfl, rfl⟩
      go_wp2_with fail
      refine (fits_any _ _ C _ h1).mono ?_
      rintro e w' ⟨rfl, rfl⟩
      go_wp2_with fail
      refine K.out.mono ?_
      intro e w1 hq
      unfold TwoOf at hq
      rw [Hf.out] at hq
      obtain ⟨a1, c1, a2, c2, rfl, _, _, _, _, q3, q4, p1⟩ := hq
      rw [Lo.out, Lr.out]
      go_wp2_with fail
      refine (same_any a1 a m c1 m c out out w1 w1.heap.size Lo.out Lo.out q3 (Hbo.out.below p1).lt Ho.out Ho.out).mono ?_
      rintro e w2 ⟨rfl, rfl⟩
      have z1 : decide (out = out) = true := by simp
      rw [z1]
      go_wp2_with fail
      refine (same_any a2 (cutA a c m) _ c2 (n - m) (c - m) rest rest w1 w1.heap.size Lr.out Lr.out q4 (Hbr.out.below p1).lt Hr.out Hr.out).mono ?_
      rintro e w3 ⟨rfl, rfl⟩
      have z2 : decide (rest = rest) = true := by simp
      rw [z2]
      go_wp2
      go_ret
      exact ⟨ret_bool (by simp), p1⟩
  · have t0 : ((m : Int) == 0) = false := by simp; omega
    have Hf := Lib.hid (show cutOf n xs (m : Int) = none by rw [cutOf, if_neg (by omega)])
    go_enter Try.func6, Try.ntmps6
    go_wp2_with fail
    refine (fits_any _ _ c _ h0).mono ?_
    rintro e w' ⟨rfl, rfl⟩
    go_wp2_with fail
    refine (fits_any _ _ C _ h1).mono ?_
    rintro e w' ⟨rfl, rfl⟩
    go_wp2_with fail
    refine K.out.mono ?_
    intro e w1 hq
    unfold TwoOf at hq
    rw [Hf.out] at hq
    obtain ⟨v1, v2, rfl, p1⟩ := hq
    go_wp2
    go_ret
    first | exact ⟨rfl, p1⟩ | exact ⟨ret_bool (by simp; omega), p1⟩

set_option maxRecDepth 100000 in
set_option maxHeartbeats 800000 in
theorem walk_FnExactCopyBytes (w : World) (a : Option Addr) (n c : Nat) (xs : List Int) (hn : xs.length = n) (hb : BIn w w.heap.size a xs) (hx : Byt xs) (hc : n ≤ c) (hm : c ≤ maxLen) (A : Option Addr) (m C : Nat) (zs : List Int) (hz : zs.length = m) (hzb : BIn w w.heap.size A zs) (hzx : Byt zs) (hmC : m ≤ C) (hC : C ≤ maxLen) :
    Calls Try.prog 6 #[.slice a n c, .slice A m C] w fun e w' => e = .returned (.bool true) ∧ Below w.heap.size w w' := by
  by_cases h0 : n ≤ 1048576
  · by_cases h1 : m ≤ 1048576
    · by_cases hp : 0 < n ∨ 0 < m
      · exact main_FnExactCopyBytes w a A n c m C xs zs hn hb hx hc hm hz hzb hmC hC h0 h1 hp
      · obtain rfl : m = 0 := by omega
        obtain rfl : n = 0 := by omega
        go_enter Try.func6, Try.ntmps6
        go_wp2_with fail
        refine (fits_any _ _ c _ h0).mono ?_
        rintro e w' ⟨rfl, rfl⟩
        go_wp2_with fail
        refine (fits_any _ _ C _ h1).mono ?_
        rintro e w' ⟨rfl, rfl⟩
        go_wp2
        go_ret
        exact ⟨rfl, Below.refl _ _⟩
    · by_cases hy : m ≤ 2147483647
      · go_enter Try.func6, Try.ntmps6
        go_wp2_with fail
        refine (fits_any _ _ c _ h0).mono ?_
        rintro e w' ⟨rfl, rfl⟩
        go_wp2_with fail
        refine (fits_no A m C _ (by omega)).mono ?_
        rintro e w' ⟨rfl, rfl⟩
        go_wp2
        go_ret
        exact ⟨rfl, Below.refl _ _⟩
      · go_enter Try.func6, Try.ntmps6
        go_wp2
        go_ret
        exact ⟨rfl, Below.refl _ _⟩
  · by_cases hy : n ≤ 2147483647
    · by_cases hy2 : m ≤ 2147483647
      · go_enter Try.func6, Try.ntmps6
        go_wp2_with fail
        refine (fits_no a n c _ (by omega)).mono ?_
        rintro e w' ⟨rfl, rfl⟩
        go_wp2
        go_ret
        exact ⟨rfl, Below.refl _ _⟩
      · go_enter Try.func6, Try.ntmps6
        go_wp2
        go_ret
        exact ⟨rfl, Below.refl _ _⟩
    · go_enter Try.func6, Try.ntmps6
      go_wp2
      go_ret
      exact ⟨rfl, Below.refl _ _⟩
end Go.Proofs.Ytcimjejbakgadaa
