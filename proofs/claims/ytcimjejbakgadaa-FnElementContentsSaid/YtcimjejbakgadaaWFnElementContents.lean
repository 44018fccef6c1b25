/- The walk of laws.FnElementContents. -/
import Derived.Test.YtcimjejbakgadaaLawDer
import Derived.Test.YtcimjejbakgadaaImpElem
import Derived.Test.YtcimjejbakgadaaRead3
namespace Go.Proofs.Ytcimjejbakgadaa
open Go.RowKit
set_option linter.unusedVariables false

set_option maxRecDepth 100000 in
set_option maxHeartbeats 1600000 in
theorem main_FnElementContents (w : World) (a : Option Addr) (n c : Nat) (xs : List Int) (hn : xs.length = n) (hb : BIn w w.heap.size a xs) (hx : Byt xs) (hc : n ≤ c) (hm : c ≤ maxLen) (h0 : n ≤ 1048576) (t : Int) (t0 : 0 ≤ t) (t1 : t ≤ 255) :
    Calls Try.prog 20 #[.slice a n c, .int .i64 t] w fun e w' => e = .returned (.bool true) ∧ Below w.heap.size w w' := by
  have T := Lib.hid (tagOk_yes t w t0 t1)
  have K := Lib.hid (iReadElem_any a n c xs t w hn hb hx (by omega) t0 t1)
  have D := Lib.hid (fun W (hB : Below w.heap.size w W) => iReadASN1_any a n c xs t W hn ((hb.below hB).more hB.size) hx (by omega) t0 t1)
  have G := Lib.hid (fun W (hB : Below w.heap.size w W) => tagged_any a n c xs t w.heap.size W hn hc hm (hb.below hB) hB.size hx (by omega))
  cases hf : elemOf xs t with
  | none =>
    have Hf := Lib.hid hf
    have Hg := Lib.hid (show firstOf xs t = none by
      cases h1 : first xs with
      | none => exact firstOf_none h1
      | some v =>
        obtain ⟨tg, b, k⟩ := v
        rw [elemOf_some h1] at hf
        rw [firstOf_some h1]
        split at hf
        · cases hf
        · rename_i h; rw [if_neg h])
    clear hn hb hx hf t0 t1
    go_enter Try.func20, Try.ntmps20
    go_wp2_with fail
    refine T.out.mono ?_
    rintro e w' ⟨rfl, rfl⟩
    go_wp2_with fail
    refine (fits_any a n c _ h0).mono ?_
    rintro e w' ⟨rfl, rfl⟩
    go_wp2_with fail
    refine K.out.mono ?_
    intro e w1 hq
    unfold TwoOf at hq
    rw [Hf.out] at hq
    obtain ⟨v1, v2, rfl, p1⟩ := hq
    go_wp2_with fail
    refine (D.out w1 p1).mono ?_
    intro e w2 hq
    unfold TwoOf at hq
    rw [Hg.out] at hq
    obtain ⟨v3, v4, rfl, p2⟩ := hq
    have p12 := p1.trans (p2.mono p1.size)
    go_wp2_with fail
    refine (G.out w2 p12).mono ?_
    rw [Hg.out]
    rintro e w3 ⟨rfl, p3⟩
    go_wp2
    go_ret
    exact ⟨rfl, p12.trans (p3.mono p12.size)⟩
  | some v =>
    obtain ⟨out, rest⟩ := v
    obtain ⟨b, k, h1, ho, hr, l1, l2, l3, l4, l5⟩ := elemOf_inv hf
    obtain ⟨con, hcon⟩ : ∃ con, (xs.take k).drop b = con := ⟨_, rfl⟩
    have Hf := Lib.hid hf
    have Hg := Lib.hid (show firstOf xs t = some (con, rest) by rw [firstOf_some h1, if_pos rfl, hcon, hr])
    have lc : con.length = k - b := by rw [← hcon, List.length_drop, List.length_take]; omega
    have Hc := Lib.hid (show Byt con by rw [← hcon]; exact (hx.take _).drop _)
    have Ho := Lib.hid (show Byt out by rw [ho]; exact hx.take _)
    have Hr := Lib.hid (show Byt rest by rw [hr]; exact hx.drop _)
    have Hx := Lib.hid hx
    have Hb := Lib.hid hb
    have Hn := Lib.hid hn
    have Hd := Lib.hid (show out.drop b = con by rw [ho, hcon])
    have Hj := Lib.hid (show out ++ rest = xs by rw [ho, hr]; exact List.take_append_drop k xs)
    have Lo := Lib.hid l1
    have Lc := Lib.hid lc
    have Lr := Lib.hid l2
    have hk1 : b ≤ k := l5
    have hk2 : k ≤ n := by omega
    have hk3 : 2 ≤ b := l4
    generalize hlo : out.length = lo at *
    generalize hlc : con.length = lcn at *
    generalize hlr : rest.length = lr at *
    have Hlo := Lib.hid hlo
    have Hlc := Lib.hid hlc
    have Hlr := Lib.hid hlr
    clear hn hb hx hf t0 t1 h1 ho hr hcon l1 l2 l3 l4 l5 lc hlo hlc hlr
    go_enter Try.func20, Try.ntmps20
    go_wp2_with fail
    refine T.out.mono ?_
    rintro e w' ⟨rfl, rfl⟩
    go_wp2_with fail
    refine (fits_any a n c _ h0).mono ?_
    rintro e w' ⟨rfl, rfl⟩
    go_wp2_with fail
    refine K.out.mono ?_
    intro e w1 hq
    unfold TwoOf at hq
    rw [Hf.out] at hq
    obtain ⟨a1, c1, a2, c2, rfl, q1, q2, _, _, q3, q4, p1⟩ := hq
    rw [Hlo.out] at q1
    rw [Hlo.out, Hlr.out]
    go_wp2_with fail
    refine (D.out w1 p1).mono ?_
    intro e w2 hq
    unfold TwoOf at hq
    rw [Hg.out] at hq
    obtain ⟨a3, c3, a4, c4, rfl, _, _, _, _, r3, r4, p2⟩ := hq
    rw [Hlc.out, Hlr.out]
    have p12 := p1.trans (p2.mono p1.size)
    have i1 : (lcn : Int) + 2 ≤ (lo : Int) := by have := Lo.out; have := Lc.out; omega
    have i2 : lcn + 2 ≤ lo := by omega
    have i3 : (lo : Int) ≤ 1048576 := by have := Lo.out; omega
    have sl := sl_from a1 lo c1 ((lo : Int) - (lcn : Int)) (lo - lcn) (by omega) (by omega)
    go_wp2_with fail
    have z1 : BIn w2 w2.heap.size (cutA a1 c1 (lo - lcn)) con := by
      have h := ((q3.below p2).lt).cut (c := c1) (k := lo - lcn) (by rw [Hlo.out]; exact q1)
      have hbk : lo - lcn = b := by have := Lo.out; have := Lc.out; omega
      rw [hbk] at h ⊢
      rwa [Hd.out] at h
    refine (same_any (cutA a1 c1 (lo - lcn)) a3 (lo - (lo - lcn)) (c1 - (lo - lcn)) lcn c3 con con w2 w2.heap.size (by rw [Hlc.out]; omega) Hlc.out z1 r3 Hc.out Hc.out).mono ?_
    rintro e w3 ⟨rfl, rfl⟩
    have y1 : decide (con = con) = true := by simp
    rw [y1]
    go_wp2_with fail
    refine (same_any a2 a4 lr c2 lr c4 rest rest w2 w2.heap.size Hlr.out Hlr.out ((q4.below p2).lt) r4 Hr.out Hr.out).mono ?_
    rintro e w3 ⟨rfl, rfl⟩
    have y2 : decide (rest = rest) = true := by simp
    rw [y2]
    go_wp2_with fail
    have i4 : lo + lr ≤ 4194304000 := by have := Lo.out; have := Lr.out; have := Hn.out; omega
    refine (behind_any a1 a2 lo c1 lr c2 out rest w2 Hlo.out Hlr.out ((q3.below p2).lt) ((q4.below p2).lt) i4).mono ?_
    rintro e w4 ⟨a5, c5, rfl, s1, s2, s3, p4, _⟩
    have p14 := p12.trans (p4.mono p12.size)
    clear i4
    go_wp2_with fail
    refine (same_any a5 a (lo + lr) c5 n c xs xs w4 w4.heap.size (by have := Lo.out; have := Lr.out; have := Hn.out; omega) Hn.out (by rw [← Hj.out]; exact s3) ((Hb.out.below p14).lt) Hx.out Hx.out).mono ?_
    rintro e w5 ⟨rfl, rfl⟩
    go_wp2
    go_ret
    exact ⟨ret_bool (by simp), p14⟩

-- PRE (printed by gen_pre.py of this folder)
set_option maxRecDepth 100000 in
set_option maxHeartbeats 800000 in
theorem walk_FnElementContents (w : World) (a : Option Addr) (n c : Nat) (xs : List Int) (hn : xs.length = n) (hb : BIn w w.heap.size a xs) (hx : Byt xs) (hc : n ≤ c) (hm : c ≤ maxLen) (t : Int) (wt : (Lit.int .i64 t).wf = true) :
    Calls Try.prog 20 #[.slice a n c, .int .i64 t] w fun e w' => e = .returned (.bool true) ∧ Below w.heap.size w w' := by
  by_cases ht : 0 ≤ t ∧ t ≤ 255
  · by_cases h0 : n ≤ 1048576
    · exact main_FnElementContents w a n c xs hn hb hx hc hm h0 t ht.1 ht.2
    · by_cases hz : n ≤ 2147483647
      · have T := Lib.hid (tagOk_yes t w ht.1 ht.2)
        clear ht wt
        go_enter Try.func20, Try.ntmps20
        go_wp2_with fail
        refine T.out.mono ?_
        rintro e w' ⟨rfl, rfl⟩
        go_wp2_with fail
        refine (fits_no a n c _ (by omega)).mono ?_
        rintro e w' ⟨rfl, rfl⟩
        go_wp2
        go_ret
        exact ⟨rfl, Below.refl _ _⟩
      · clear ht wt
        go_enter Try.func20, Try.ntmps20
        go_wp2
        go_ret
        exact ⟨rfl, Below.refl _ _⟩
  · by_cases hz : n ≤ 2147483647
    · have T := Lib.hid (tagOk_no t w (by omega))
      clear ht wt
      go_enter Try.func20, Try.ntmps20
      go_wp2_with fail
      refine T.out.mono ?_
      rintro e w' ⟨rfl, rfl⟩
      go_wp2
      go_ret
      exact ⟨rfl, Below.refl _ _⟩
    · clear ht wt
      go_enter Try.func20, Try.ntmps20
      go_wp2
      go_ret
      exact ⟨rfl, Below.refl _ _⟩
end Go.Proofs.Ytcimjejbakgadaa
