/- The walk of laws.FnBackOptionalOctets. -/
import Derived.Test.YtndknmchhhljcaaWf
import Derived.Test.YtndknmchhhljcaaOptOct
namespace Go.Proofs.Ytndknmchhhljcaa
open Go.RowKit
set_option linter.unusedVariables false

theorem firstOf_tag' {xs out rest : List Int} {t : Int} (h : firstOf xs t = some (out, rest)) : isTag xs t = true := by
  obtain ⟨b, k, hf, _⟩ := firstOf_inv h
  have hb := (first_bounds hf).2.2.2.1
  cases xs with
  | nil => cases hf
  | cons x r => simp only [List.getD_cons_zero] at hb; simp [isTag, hb]
theorem isTag_other {xs : List Int} {t o : Int} (h : isTag xs t = true) (hne : t ≠ o) : isTag xs o = false := by
  cases xs with
  | nil => cases h
  | cons x r =>
    simp only [isTag, beq_iff_eq] at h
    subst h
    simp [isTag, hne]

set_option maxRecDepth 100000 in
set_option maxHeartbeats 1600000 in
theorem main_FnBackOptionalOctets (w : World) (t o : Int) (ht : t % 32 ≠ 31) (t0 : 0 ≤ t) (t1 : t ≤ 255) (o0 : 0 ≤ o) (o1 : o ≤ 255) (hto : t ≠ o) (a : Option Addr) (n c : Nat) (v : List Int) (hn : v.length = n) (hv : BIn w w.heap.size a v) (hyv : Byt v) (b : Option Addr) (m d : Nat) (xs : List Int) (hm : xs.length = m) (hb : BIn w w.heap.size b xs) (hx : Byt xs) (hl : n ≤ 1048576) (hl2 : m ≤ 1048576) :
    Calls Try.prog 26 #[.int .i64 t, .int .i64 o, .slice a n c, .slice b m d] w fun e w' => e = .returned (.bool true) ∧ Below w.heap.size w w' := by
  have T := Lib.hid (tagOk_yes t w t0 t1)
  have TO := Lib.hid (tagOk_yes o w o0 o1)
  have t2 : (t % 32 == 31) = false := by simp [ht]
  have t3 : (t == o) = false := by simpa using hto
  have K := Lib.hid (iOct w a n c v hn hv (by omega))
  have L4 := derWrap_len 4 v
  have L5 := derWrap_len t (derWrap 4 v)
  have Y4 : Byt (derWrap 4 v) := derWrap_byt (by omega) (by omega) hyv
  have F1 := Lib.hid (show firstOf (derWrap t (derWrap 4 v) ++ xs) t = some (derWrap 4 v, xs) by rw [firstOf_derWrap ht t _ xs (by omega) Y4 hx, if_pos rfl])
  have F2 := Lib.hid (show firstOf (derWrap 4 v) 4 = some (v, []) by
    have := firstOf_derWrap (t := 4) (by decide) 4 v [] (by omega) hyv Byt.nil
    rw [List.append_nil, if_pos rfl] at this
    exact this)
  have HbX := Lib.hid (show Byt (derWrap t (derWrap 4 v)) from derWrap_byt t0 (by omega) Y4)
  have Ls := Lib.hid (show (derWrap 4 v).length ≤ 1050000 ∧ (derWrap t (derWrap 4 v)).length ≤ 1060000 by omega)
  have K2 := Lib.hid (fun (W : World) (a1 : Option Addr) (n1 c1 : Nat) => iASN1 W t a1 n1 c1 (derWrap 4 v) ht t0 t1)
  clear L4 L5 Y4 ht
  generalize derWrap t (derWrap 4 v) = X at *
  generalize derWrap 4 v = V at *
  obtain ⟨p, hp⟩ : ∃ p, p = V.length := ⟨_, rfl⟩
  obtain ⟨q, hq⟩ : ∃ q, q = X.length := ⟨_, rfl⟩
  have Hp := Lib.hid hp.symm
  have Hq := Lib.hid hq.symm
  have Hn := Lib.hid hn
  have Hv := Lib.hid hv
  have HYV := Lib.hid hyv
  have Hm := Lib.hid hm
  have HB := Lib.hid hb
  have Hx := Lib.hid hx
  have I1 := Lib.hid (firstOf_tag' F1.out)
  have I2 := Lib.hid (isTag_other I1.out hto)
  have hqm := Lib.hid (show (X ++ xs).length = q + m by rw [List.length_append, Hq.out, Hm.out])
  have hql := Lib.hid (show q + m ≤ 4194304000 by have := Ls.out; have := Hq.out; omega)
  clear hn hv hyv hm hb hx hp hq hto
  go_enter Try.func26, Try.ntmps26
  go_wp2_with fail
  refine T.out.mono ?_
  rintro e w' ⟨rfl, rfl⟩
  go_wp2_with fail
  refine TO.out.mono ?_
  rintro e w' ⟨rfl, rfl⟩
  go_wp2_with fail
  refine K.out.mono ?_
  rintro e w1 ⟨a1, c1, rfl, p1, p2, p3, p4⟩
  rw [Hp.out] at p1 ⊢
  go_wp2_with fail
  refine (K2.out w1 a1 p c1 Hp.out p3 (by have := Ls.out; have := Hp.out; omega)).mono ?_
  rintro e w2 ⟨a2, c2, rfl, q1, q2, q3, q4⟩
  rw [Hq.out] at q1 ⊢
  have p24 := p4.trans (q4.mono p4.size)
  go_wp2_with fail
  refine (behind_any a2 b q c2 m d X xs w2 Hq.out Hm.out q3 ((HB.out.below p24).lt) (by have := hql.out; omega)).mono ?_
  rintro e w3 ⟨a3, c3, rfl, r1, r2, r3, r4, _⟩
  have p34 := p24.trans (r4.mono p24.size)
  go_wp2_with fail
  refine (iOptOct_yes a3 (q + m) c3 (X ++ xs) t w3 hqm.out r3 (HbX.out.append Hx.out) hql.out V v xs I1.out F1.out F2.out t0 t1).mono ?_
  rintro e w4 ⟨a4, c4, a5, c5, rfl, _, _, _, _, s1, s2, s3⟩
  rw [Hn.out, Hm.out]
  have p44 := p34.trans (s3.mono p34.size)
  go_wp2_with fail
  refine (iOptOct_none a3 (q + m) c3 (X ++ xs) o w4 hqm.out ((r3.below s3).lt) (HbX.out.append Hx.out) hql.out I2.out o0 o1).mono ?_
  rintro e w5 ⟨a6, c6, a7, c7, rfl, _, _, _, _, u1, u2, u3⟩
  rw [hqm.out]
  have p54 := p44.trans (u3.mono p44.size)
  have A3 := Lib.hid ((r3.below (s3.trans (u3.mono s3.size))).lt)
  go_wp2_with fail
  refine (same_any a4 a n c4 n c v v w5 w5.heap.size Hn.out Hn.out ((s1.below u3).lt) ((Hv.out.below p54).lt) HYV.out HYV.out).mono ?_
  rintro e w6 ⟨rfl, rfl⟩
  have z1 : decide (v = v) = true := by simp
  rw [z1]
  go_wp2_with fail
  refine (same_any a5 b m c5 m d xs xs w5 w5.heap.size Hm.out Hm.out ((s2.below u3).lt) ((HB.out.below p54).lt) Hx.out Hx.out).mono ?_
  rintro e w6 ⟨rfl, rfl⟩
  have z2 : decide (xs = xs) = true := by simp
  rw [z2]
  go_wp2_with fail
  refine (same_any a7 a3 (q + m) c7 (q + m) c3 (X ++ xs) (X ++ xs) w5 w5.heap.size hqm.out hqm.out u2 A3.out (HbX.out.append Hx.out) (HbX.out.append Hx.out)).mono ?_
  rintro e w6 ⟨rfl, rfl⟩
  go_wp2
  go_ret
  exact ⟨ret_bool (by simp), p54⟩

set_option maxRecDepth 100000 in
set_option maxHeartbeats 1600000 in
theorem walk_FnBackOptionalOctets (w : World) (t : Int) (wt : (Lit.int .i64 t).wf = true) (o : Int) (wo : (Lit.int .i64 o).wf = true) (a : Option Addr) (n c : Nat) (v : List Int) (hn : v.length = n) (hv : BIn w w.heap.size a v) (hyv : Byt v) (hc : n ≤ c) (hcm : c ≤ maxLen) (b : Option Addr) (m d : Nat) (xs : List Int) (hm : xs.length = m) (hb : BIn w w.heap.size b xs) (hx : Byt xs) (hd : m ≤ d) (hdm : d ≤ maxLen) :
    Calls Try.prog 26 #[.int .i64 t, .int .i64 o, .slice a n c, .slice b m d] w fun e w' => e = .returned (.bool true) ∧ Below w.heap.size w w' := by
  by_cases hz : n ≤ 2147483647
  · by_cases hz2 : m ≤ 2147483647
    · by_cases ht : 0 ≤ t ∧ t ≤ 255
      · by_cases ho : 0 ≤ o ∧ o ≤ 255
        · by_cases h31 : t % 32 = 31
          · have T := Lib.hid (tagOk_yes t w ht.1 ht.2)
            have TO := Lib.hid (tagOk_yes o w ho.1 ho.2)
            have t2 : (t % 32 == 31) = true := by simp [h31]
            obtain ⟨t0, t1⟩ := ht
            clear ho
            clear wt wo hn hv hyv hm hb hx
            clear h31
            go_enter Try.func26, Try.ntmps26
            go_wp2_with fail
            refine T.out.mono ?_
            rintro e w' ⟨rfl, rfl⟩
            go_wp2_with fail
            refine TO.out.mono ?_
            rintro e w' ⟨rfl, rfl⟩
            go_wp2
            go_ret
            exact ⟨rfl, Below.refl _ _⟩
          · by_cases hto : t = o
            · have T := Lib.hid (tagOk_yes t w ht.1 ht.2)
              have TO := Lib.hid (tagOk_yes o w ho.1 ho.2)
              have t2 : (t % 32 == 31) = false := by simp [h31]
              subst hto
              obtain ⟨t0, t1⟩ := ht
              clear ho h31
              clear wt hn hv hyv hm hb hx
              clear wo
              go_enter Try.func26, Try.ntmps26
              go_wp2_with fail
              refine T.out.mono ?_
              rintro e w' ⟨rfl, rfl⟩
              go_wp2_with fail
              refine T.out.mono ?_
              rintro e w' ⟨rfl, rfl⟩
              go_wp2
              go_ret
              exact ⟨rfl, Below.refl _ _⟩
            · by_cases hl : n ≤ 1048576
              · by_cases hl2 : m ≤ 1048576
                · exact main_FnBackOptionalOctets w t o h31 ht.1 ht.2 ho.1 ho.2 hto a n c v hn hv hyv b m d xs hm hb hx hl hl2
                · have T := Lib.hid (tagOk_yes t w ht.1 ht.2)
                  have TO := Lib.hid (tagOk_yes o w ho.1 ho.2)
                  have t2 : (t % 32 == 31) = false := by simp [h31]
                  have t3 : (t == o) = false := by simpa using hto
                  obtain ⟨t0, t1⟩ := ht
                  clear ho
                  clear wt wo hn hv hyv hm hb hx
                  clear h31 hto
                  go_enter Try.func26, Try.ntmps26
                  go_wp2_with fail
                  refine T.out.mono ?_
                  rintro e w' ⟨rfl, rfl⟩
                  go_wp2_with fail
                  refine TO.out.mono ?_
                  rintro e w' ⟨rfl, rfl⟩
                  go_wp2
                  go_ret
                  exact ⟨rfl, Below.refl _ _⟩
              · have T := Lib.hid (tagOk_yes t w ht.1 ht.2)
                have TO := Lib.hid (tagOk_yes o w ho.1 ho.2)
                have t2 : (t % 32 == 31) = false := by simp [h31]
                have t3 : (t == o) = false := by simpa using hto
                obtain ⟨t0, t1⟩ := ht
                clear ho
                clear wt wo hn hv hyv hm hb hx
                clear h31 hto
                go_enter Try.func26, Try.ntmps26
                go_wp2_with fail
                refine T.out.mono ?_
                rintro e w' ⟨rfl, rfl⟩
                go_wp2_with fail
                refine TO.out.mono ?_
                rintro e w' ⟨rfl, rfl⟩
                go_wp2
                go_ret
                exact ⟨rfl, Below.refl _ _⟩
        · have T := Lib.hid (tagOk_yes t w ht.1 ht.2)
          have TO := Lib.hid (tagOk_no o w (by omega))
          obtain ⟨t0, t1⟩ := ht
          clear ho
          clear wt wo hn hv hyv hm hb hx
          go_enter Try.func26, Try.ntmps26
          go_wp2_with fail
          refine T.out.mono ?_
          rintro e w' ⟨rfl, rfl⟩
          go_wp2_with fail
          refine TO.out.mono ?_
          rintro e w' ⟨rfl, rfl⟩
          go_wp2
          go_ret
          exact ⟨rfl, Below.refl _ _⟩
      · have T := Lib.hid (tagOk_no t w (by omega))
        clear ht
        clear wt wo hn hv hyv hm hb hx
        go_enter Try.func26, Try.ntmps26
        go_wp2_with fail
        refine T.out.mono ?_
        rintro e w' ⟨rfl, rfl⟩
        go_wp2
        go_ret
        exact ⟨rfl, Below.refl _ _⟩
    · clear wt wo hn hv hyv hm hb hx
      go_enter Try.func26, Try.ntmps26
      go_wp2
      go_ret
      exact ⟨rfl, Below.refl _ _⟩
  · clear wt wo hn hv hyv hm hb hx
    go_enter Try.func26, Try.ntmps26
    go_wp2
    go_ret
    exact ⟨rfl, Below.refl _ _⟩
end Go.Proofs.Ytndknmchhhljcaa
