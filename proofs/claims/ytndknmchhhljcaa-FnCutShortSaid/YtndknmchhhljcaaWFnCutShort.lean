/- The walk of laws.FnCutShort. (Printed by gen_cut.py.) -/
import Derived.Test.YtndknmchhhljcaaImpAnyE
import Derived.Test.YtndknmchhhljcaaImpDer
namespace Go.Proofs.Ytndknmchhhljcaa
open Go.RowKit
set_option linter.unusedVariables false

theorem longOf_append {r s2 : List Int} {m k : Nat} (h : longOf r m = some k) : longOf (r ++ s2) m = some k := by
  obtain ⟨m1, m2, m3, m4, m5, m6⟩ := longOf_some h
  unfold longOf
  have e1 : (r ++ s2).getD 0 0 = r.getD 0 0 := by
    rw [List.getD_eq_getElem?_getD, List.getD_eq_getElem?_getD, List.getElem?_append_left (by omega)]
  rw [List.take_append_of_le_length m3, e1, if_neg (by simp only [List.length_append]; omega), m6]
theorem first_append {s s2 : List Int} {t : Int} {b k : Nat} (h : first s = some (t, b, k)) : first (s ++ s2) = some (t, b, k) := by
  match s, h with
  | t0 :: l :: r, h =>
    rw [List.cons_append, List.cons_append]
    by_cases ht : t0 % 32 = 31
    · rw [first_high ht] at h; cases h
    · by_cases hl : l < 128
      · rw [first_short ht hl] at h ⊢
        split at h
        · cases h
        · rw [if_neg (by simp only [List.length_append]; omega)]; exact h
      · cases hk : longOf r (l - 128).toNat with
        | none => rw [first_long_none ht hl hk] at h; cases h
        | some q =>
          rw [first_long_some ht hl hk] at h
          rw [first_long_some ht hl (longOf_append hk)]
          split at h
          · cases h
          · rw [if_neg (by simp only [List.length_append]; omega)]; exact h
theorem first_cut {t : Int} (ht : t % 32 ≠ 31) (c : List Int) (hn : c.length < 16777216) (hc : Byt c) {k : Nat} (hk : k < (derWrap t c).length) : first ((derWrap t c).take k) = none := by
  cases hf : first ((derWrap t c).take k) with
  | none => rfl
  | some v =>
    obtain ⟨t', b, e⟩ := v
    have h1 := first_append (s2 := (derWrap t c).drop k) hf
    rw [List.take_append_drop] at h1
    have h2 := first_derWrap ht c [] hn hc Byt.nil
    rw [List.append_nil, h1] at h2
    injection h2 with h2
    simp only [Prod.mk.injEq] at h2
    have h3 := first_bounds hf
    have h4 : (derWrap t c).length = (derHdr t c.length).length + c.length := by unfold derWrap; rw [List.length_append]
    rw [List.length_take] at h3
    omega

/-- 's[:k]' of bytes. -/
theorem sl_to (a : Option Addr) (n c : Nat) (k : Int) (m : Nat) (hk : k = m) (hn : m ≤ c) (w : World) :
    (Instr.sliceAt 22 (.slice a n c) none (some (.int .i64 k)) none).run Try.prog w = .ok (.slice a m c) w := by
  subst hk
  have ht : Try.prog.underlying 22 = some (.slice (Try.prog.elem 22)) := by kernel_rfl
  have hs : ∀ w, (sizeOf (Try.prog.elem 22)).run Try.prog w = .ok 1 w := fun w => by kernel_rfl
  rw [run_sliceAt_slice w _ _ _ _ _ ht, run_slice_h w _ a n c ht _ _ (by omega) (by omega), hs]
  simp [Result.andThen, sliced]
  intro _
  cases a with
  | none => rfl
  | some x =>
    obtain ⟨b, o, s⟩ := x
    cases s <;> simp [Addr.add]

set_option maxRecDepth 100000 in
set_option maxHeartbeats 1600000 in
theorem main_FnCutShort (w : World) (t : Int) (ht : t % 32 ≠ 31) (t0 : 0 ≤ t) (t1 : t ≤ 255) (a : Option Addr) (n c : Nat) (xs : List Int) (hn : xs.length = n) (hb : BIn w w.heap.size a xs) (hx : Byt xs) (hl : n ≤ 1048576) (k : Int) (hk0 : 0 ≤ k) :
    Calls Try.prog 22 #[.int .i64 t, .slice a n c, .int .i64 k] w fun e w' => e = .returned (.bool true) ∧ Below w.heap.size w w' := by
  have T := Lib.hid (tagOk_yes t w t0 t1)
  have t2 : (t % 32 == 31) = false := by simp [ht]
  have K := Lib.hid (iASN1 w t a n c xs ht t0 t1 hn hb (by omega))
  have C := Lib.hid (fun k hk => @first_cut t ht xs (by omega) hx k hk)
  have HXl := Lib.hid (show (derWrap t xs).length ≤ 2000000 by have := derWrap_len t xs; omega)
  have HbX := Lib.hid (derWrap_byt t0 (by omega) hx)
  generalize derWrap t xs = X at *
  obtain ⟨m, hm⟩ : ∃ m, m = X.length := ⟨_, rfl⟩
  have Hm := Lib.hid hm.symm
  have hl' : (n : Int) ≤ 1048576 := by omega
  obtain ⟨k, rfl⟩ := Int.eq_ofNat_of_zero_le hk0
  clear hn hb hx ht hl
  by_cases hk : k < m
  · have hk' : (k : Int) < (m : Int) := by omega
    have F := Lib.hid (C.out k (by omega))
    clear hm hk0
    go_enter Try.func22, Try.ntmps22
    go_wp2_with fail
    refine T.out.mono ?_
    rintro e w' ⟨rfl, rfl⟩
    go_wp2_with fail
    refine K.out.mono ?_
    rintro e w1 ⟨a1, c1, rfl, p1, p2, p3, p4⟩
    rw [Hm.out] at p1 ⊢
    have sl := fun W => sl_to a1 m c1 k k rfl (by omega) W
    have P1 := Lib.hid (p3.take k)
    have LX := Lib.hid (show (X.take k).length = k by rw [List.length_take, Hm.out]; omega)
    go_wp2_with fail
    refine (iReadAny_any a1 k c1 (X.take k) w1 LX.out P1.out (HbX.out.take k) (by have := HXl.out; have := Hm.out; omega)).mono ?_
    intro e w2 hq
    unfold AnyOf at hq
    rw [F.out] at hq
    obtain ⟨v1, v2, v3, rfl, p5⟩ := hq
    have p45 := p4.trans (p5.mono p4.size)
    go_wp2_with fail
    refine (iReadAnyE_no a1 k c1 (X.take k) w2 LX.out ((P1.out.below p5).lt) (HbX.out.take k) (by have := HXl.out; have := Hm.out; omega) F.out).mono ?_
    rintro e w3 ⟨v4, v5, v6, rfl, p6⟩
    go_wp2
    go_ret
    exact ⟨rfl, p45.trans (p6.mono p45.size)⟩
  · have hk' : (m : Int) ≤ (k : Int) := by omega
    clear hm hk0
    go_enter Try.func22, Try.ntmps22
    go_wp2_with fail
    refine T.out.mono ?_
    rintro e w' ⟨rfl, rfl⟩
    go_wp2_with fail
    refine K.out.mono ?_
    rintro e w1 ⟨a1, c1, rfl, p1, p2, p3, p4⟩
    rw [Hm.out] at p1 ⊢
    go_wp2
    go_ret
    exact ⟨rfl, p4⟩

set_option maxRecDepth 100000 in
set_option maxHeartbeats 800000 in
theorem walk_FnCutShort (w : World) (t : Int) (wt : (Lit.int .i64 t).wf = true) (a : Option Addr) (n c : Nat) (xs : List Int) (hn : xs.length = n) (hb : BIn w w.heap.size a xs) (hx : Byt xs) (hc : n ≤ c) (hm : c ≤ maxLen) (k : Int) (wk : (Lit.int .i64 k).wf = true) :
    Calls Try.prog 22 #[.int .i64 t, .slice a n c, .int .i64 k] w fun e w' => e = .returned (.bool true) ∧ Below w.heap.size w w' := by
  clear wt wk
  by_cases hz : n ≤ 2147483647
  · by_cases ht : 0 ≤ t ∧ t ≤ 255
    · have T := Lib.hid (tagOk_yes t w ht.1 ht.2)
      obtain ⟨t0, t1⟩ := ht
      by_cases h31 : t % 32 = 31
      · have t2 : (t % 32 == 31) = true := by simp [h31]
        clear hn hb hx h31
        go_enter Try.func22, Try.ntmps22
        go_wp2_with fail
        refine T.out.mono ?_
        rintro e w' ⟨rfl, rfl⟩
        go_wp2
        go_ret
        exact ⟨rfl, Below.refl _ _⟩
      · by_cases hl : n ≤ 1048576
        · by_cases hk : 0 ≤ k
          · exact main_FnCutShort w t h31 t0 t1 a n c xs hn hb hx hl k hk
          · have t2 : (t % 32 == 31) = false := by simp [h31]
            clear hn hb hx h31
            go_enter Try.func22, Try.ntmps22
            go_wp2_with fail
            refine T.out.mono ?_
            rintro e w' ⟨rfl, rfl⟩
            go_wp2
            go_ret
            exact ⟨rfl, Below.refl _ _⟩
        · have t2 : (t % 32 == 31) = false := by simp [h31]
          clear hn hb hx h31
          go_enter Try.func22, Try.ntmps22
          go_wp2_with fail
          refine T.out.mono ?_
          rintro e w' ⟨rfl, rfl⟩
          go_wp2
          go_ret
          exact ⟨rfl, Below.refl _ _⟩
    · have T := Lib.hid (tagOk_no t w (by omega))
      clear hn hb hx ht
      go_enter Try.func22, Try.ntmps22
      go_wp2_with fail
      refine T.out.mono ?_
      rintro e w' ⟨rfl, rfl⟩
      go_wp2
      go_ret
      exact ⟨rfl, Below.refl _ _⟩
  · clear hn hb hx
    go_enter Try.func22, Try.ntmps22
    go_wp2
    go_ret
    exact ⟨rfl, Below.refl _ _⟩
end Go.Proofs.Ytndknmchhhljcaa
