/- The walk of laws.FnOptionalRead. -/
import Derived.Test.YtcimjejbakgadaaImpOpt
import Derived.Test.YtcimjejbakgadaaRead3
namespace Go.Proofs.Ytcimjejbakgadaa
open Go.RowKit
set_option linter.unusedVariables false

theorem iPeek_any (a : Option Addr) (n c : Nat) (xs : List Int) (t : Int) (w : World) (hn : xs.length = n) (hb : BIn w w.heap.size a xs) (hl : n ≤ 4194304000) (h0 : 0 ≤ t) (h1 : t ≤ 255) :
    Calls Try.prog 34 #[.slice a n c, .int .i64 t] w fun e w' => e = .returned (.bool (isTag xs t)) ∧ Below w.heap.size w w' := by
  cases xs with
  | nil => simp at hn; subst hn; exact iPeekTag_nil a c t w hb
  | cons x r => exact iPeekTag_cons a n c x t r w (by simpa using hn) hb hl h0 h1

theorem firstOf_tag {xs out rest : List Int} {t : Int} (h : firstOf xs t = some (out, rest)) : isTag xs t = true := by
  obtain ⟨b, k, hf, _⟩ := firstOf_inv h
  have hb := (first_bounds hf).2.2.2.1
  cases xs with
  | nil => cases hf
  | cons x r => simp only [List.getD_cons_zero] at hb; simp [isTag, hb]

set_option maxRecDepth 100000 in
set_option maxHeartbeats 1600000 in
theorem main_FnOptionalRead (w : World) (a : Option Addr) (n c : Nat) (xs : List Int) (hn : xs.length = n) (hb : BIn w w.heap.size a xs) (hx : Byt xs) (hc : n ≤ c) (hm : c ≤ maxLen) (h0 : n ≤ 1048576) (t : Int) (t0 : 0 ≤ t) (t1 : t ≤ 255) :
    Calls Try.prog 22 #[.slice a n c, .int .i64 t] w fun e w' => e = .returned (.bool true) ∧ Below w.heap.size w w' := by
  have T := Lib.hid (tagOk_yes t w t0 t1)
  have K := Lib.hid (iReadOpt_any a n c xs t w hn hb hx (by omega) t0 t1)
  have G := Lib.hid (fun W (hB : Below w.heap.size w W) => iReadASN1_any a n c xs t W hn ((hb.below hB).more hB.size) hx (by omega) t0 t1)
  have D := Lib.hid (fun W (hB : Below w.heap.size w W) => iPeek_any a n c xs t W hn ((hb.below hB).more hB.size) (by omega) t0 t1)
  have Hx := Lib.hid hx
  have Hb := Lib.hid hb
  have Hn := Lib.hid hn
  cases hi : isTag xs t with
  | false =>
    have Hi := Lib.hid hi
    have Hf := Lib.hid (show firstOf xs t = none by
      cases hf : firstOf xs t with
      | none => rfl
      | some v => rw [firstOf_tag hf] at hi; cases hi)
    clear hb hx hi t0 t1 hn
    go_enter Try.func22, Try.ntmps22
    go_wp2_with fail
    refine T.out.mono ?_
    rintro e w' ⟨rfl, rfl⟩
    go_wp2_with fail
    refine (fits_any a n c _ h0).mono ?_
    rintro e w' ⟨rfl, rfl⟩
    go_wp2_with fail
    refine K.out.mono ?_
    rintro e w1 ⟨ok, y1, y2, ⟨a1, c1, a2, c2, rfl, _, _, _, _, _, q4, p1⟩, m1, _⟩
    obtain ⟨rfl, rfl⟩ := m1 Hi.out
    rw [Hi.out, Hn.out]
    go_wp2_with fail
    refine (G.out w1 p1).mono ?_
    intro e w2 hq
    unfold TwoOf at hq
    rw [Hf.out] at hq
    obtain ⟨v3, v4, rfl, p2⟩ := hq
    have p12 := p1.trans (p2.mono p1.size)
    go_wp2_with fail
    refine (D.out w2 p12).mono ?_
    rw [Hi.out]
    rintro e w3 ⟨rfl, p3⟩
    have p13 := p12.trans (p3.mono p12.size)
    go_wp2_with fail
    refine (same_any a2 a n c2 n c y1 y1 w3 w3.heap.size Hn.out Hn.out ((((q4.below p2).lt).below p3).lt) ((Hb.out.below p13).lt) Hx.out Hx.out).mono ?_
    rintro e w4 ⟨rfl, rfl⟩
    go_wp2
    go_ret
    exact ⟨ret_bool (by simp), p13⟩
  | true =>
    have Hi := Lib.hid hi
    cases hf : firstOf xs t with
    | none =>
      have Hf := Lib.hid hf
      clear hb hx hi t0 t1 hn hf
      go_enter Try.func22, Try.ntmps22
      go_wp2_with fail
      refine T.out.mono ?_
      rintro e w' ⟨rfl, rfl⟩
      go_wp2_with fail
      refine (fits_any a n c _ h0).mono ?_
      rintro e w' ⟨rfl, rfl⟩
      go_wp2_with fail
      refine K.out.mono ?_
      rintro e w1 ⟨ok, y1, y2, ⟨a1, c1, a2, c2, rfl, _, _, _, _, _, q4, p1⟩, _, m2⟩
      obtain ⟨k1, _⟩ := m2 Hi.out
      rw [Hf.out] at k1
      have k1' : ok = false := k1.symm
      subst k1'
      rw [Hi.out]
      clear k1 m2
      go_wp2_with fail
      refine (G.out w1 p1).mono ?_
      intro e w2 hq
      unfold TwoOf at hq
      rw [Hf.out] at hq
      obtain ⟨v3, v4, rfl, p2⟩ := hq
      have p12 := p1.trans (p2.mono p1.size)
      go_wp2_with fail
      refine (D.out w2 p12).mono ?_
      rw [Hi.out]
      rintro e w3 ⟨rfl, p3⟩
      have p13 := p12.trans (p3.mono p12.size)
      go_wp2
      go_ret
      exact ⟨rfl, p13⟩
    | some v =>
      obtain ⟨out, rest⟩ := v
      have Hf := Lib.hid hf
      have Hr := Lib.hid (show Byt rest by obtain ⟨b, k, _, _, hr, _⟩ := firstOf_inv hf; rw [hr]; exact hx.drop _)
      have Ho := Lib.hid (show Byt out by obtain ⟨b, k, _, hr, _⟩ := firstOf_inv hf; rw [hr]; exact (hx.take _).drop _)
      clear hb hx hi t0 t1 hn hf
      go_enter Try.func22, Try.ntmps22
      go_wp2_with fail
      refine T.out.mono ?_
      rintro e w' ⟨rfl, rfl⟩
      go_wp2_with fail
      refine (fits_any a n c _ h0).mono ?_
      rintro e w' ⟨rfl, rfl⟩
      go_wp2_with fail
      refine K.out.mono ?_
      rintro e w1 ⟨ok, y1, y2, ⟨a1, c1, a2, c2, rfl, _, _, _, _, q3, q4, p1⟩, _, m2⟩
      obtain ⟨k1, k2⟩ := m2 Hi.out
      rw [Hf.out] at k1
      have k1' : ok = true := k1.symm
      subst k1'
      obtain ⟨rfl, rfl⟩ := k2 _ _ Hf.out
      rw [Hi.out]
      clear k1 k2 m2
      go_wp2_with fail
      refine (G.out w1 p1).mono ?_
      intro e w2 hq
      unfold TwoOf at hq
      rw [Hf.out] at hq
      obtain ⟨a3, c3, a4, c4, rfl, _, _, _, _, s3, s4, p2⟩ := hq
      have p12 := p1.trans (p2.mono p1.size)
      go_wp2_with fail
      refine (D.out w2 p12).mono ?_
      rw [Hi.out]
      rintro e w3 ⟨rfl, p3⟩
      have p13 := p12.trans (p3.mono p12.size)
      go_wp2_with fail
      refine (same_any a1 a3 _ c1 _ c3 y2 y2 w3 w3.heap.size rfl rfl ((((q3.below p2).lt).below p3).lt) ((s3.below p3).lt) Ho.out Ho.out).mono ?_
      rintro e w4 ⟨rfl, rfl⟩
      have z1 : decide (y2 = y2) = true := by simp
      rw [z1]
      go_wp2_with fail
      refine (same_any a2 a4 _ c2 _ c4 y1 y1 w3 w3.heap.size rfl rfl ((((q4.below p2).lt).below p3).lt) ((s4.below p3).lt) Hr.out Hr.out).mono ?_
      rintro e w4 ⟨rfl, rfl⟩
      go_wp2
      go_ret
      exact ⟨ret_bool (by simp), p13⟩

-- PRE (printed by gen_pre.py of this folder)
set_option maxRecDepth 100000 in
set_option maxHeartbeats 800000 in
theorem walk_FnOptionalRead (w : World) (a : Option Addr) (n c : Nat) (xs : List Int) (hn : xs.length = n) (hb : BIn w w.heap.size a xs) (hx : Byt xs) (hc : n ≤ c) (hm : c ≤ maxLen) (t : Int) (wt : (Lit.int .i64 t).wf = true) :
    Calls Try.prog 22 #[.slice a n c, .int .i64 t] w fun e w' => e = .returned (.bool true) ∧ Below w.heap.size w w' := by
  by_cases ht : 0 ≤ t ∧ t ≤ 255
  · by_cases h0 : n ≤ 1048576
    · exact main_FnOptionalRead w a n c xs hn hb hx hc hm h0 t ht.1 ht.2
    · by_cases hz : n ≤ 2147483647
      · have T := Lib.hid (tagOk_yes t w ht.1 ht.2)
        clear ht wt
        go_enter Try.func22, Try.ntmps22
        go_wp2_with fail
        refine T.out.mono ?_
        rintro e w' ⟨rfl, rfl⟩
        go_wp2_with fail
        refine (fits_no a n c _ (by omega)).mono ?_
        rintro e w' ⟨rfl, rfl⟩
        go_wp2
        go_ret
        exact ⟨rfl, Below.refl _ _⟩
      · clear ht wt
        go_enter Try.func22, Try.ntmps22
        go_wp2
        go_ret
        exact ⟨rfl, Below.refl _ _⟩
  · by_cases hz : n ≤ 2147483647
    · have T := Lib.hid (tagOk_no t w (by omega))
      clear ht wt
      go_enter Try.func22, Try.ntmps22
      go_wp2_with fail
      refine T.out.mono ?_
      rintro e w' ⟨rfl, rfl⟩
      go_wp2
      go_ret
      exact ⟨rfl, Below.refl _ _⟩
    · clear ht wt
      go_enter Try.func22, Try.ntmps22
      go_wp2
      go_ret
      exact ⟨rfl, Below.refl _ _⟩
end Go.Proofs.Ytcimjejbakgadaa
