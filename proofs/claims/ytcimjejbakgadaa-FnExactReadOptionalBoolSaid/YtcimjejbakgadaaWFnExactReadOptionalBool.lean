/- The walk of laws.FnExactReadOptionalBool. -/
import Derived.Test.YtcimjejbakgadaaSpecOf
import Derived.Test.YtcimjejbakgadaaImpOptB
namespace Go.Proofs.Ytcimjejbakgadaa
open Go.RowKit
set_option linter.unusedVariables false

theorem firstOf_nil (t : Int) : firstOf [] t = none := by
  cases h : firstOf [] t with
  | none => rfl
  | some p =>
    obtain ⟨o, r⟩ := p
    obtain ⟨b, k, hf, _⟩ := firstOf_inv h
    cases hf

set_option maxRecDepth 100000 in
set_option maxHeartbeats 3200000 in
theorem main_FnExactReadOptionalBool (w : World) (a : Option Addr) (n c : Nat) (xs : List Int) (hn : xs.length = n) (hb : BIn w w.heap.size a xs) (hx : Byt xs) (hc : n ≤ c) (hm : c ≤ maxLen) (h0 : n ≤ 1048576) (t : Int) (t0 : 0 ≤ t) (t1 : t ≤ 255) (df : Bool) :
    Calls Try.prog 27 #[.slice a n c, .int .i64 t, .bool df] w fun e w' => e = .returned (.bool true) ∧ Below w.heap.size w w' := by
  have T := Lib.hid (tagOk_yes t w t0 t1)
  have K := Lib.hid (iReadOptBool_any a n c xs t df w hn hb hx (by omega) t0 t1)
  have D := Lib.hid (fun W (hB : Below w.heap.size w W) => firstOf_any a n c xs t w.heap.size W hn hc hm (hb.below hB) hB.size hx (by omega))
  have D2 := Lib.hid (fun (a2 : Option Addr) (c2 : Nat) (ys : List Int) W (hB : Below w.heap.size w W) (h1 : ys.length ≤ c2) (h2 : c2 ≤ maxLen) (h3 : BIn W w.heap.size a2 ys) (h4 : Byt ys) (h5 : ys.length ≤ 4194304000) => firstOf_any a2 ys.length c2 ys 1 w.heap.size W rfl h1 h2 h3 hB.size h4 h5)
  have D0 := Lib.hid (fun W (hB : Below w.heap.size w W) => firstOf_any none 0 0 [] 1 w.heap.size W rfl (Nat.le_refl _) (by simp [maxLen]) (BIn.nil _ _ _) hB.size Byt.nil (by omega))
  have D00 := Lib.hid (firstOf_nil 1)
  have Hx := Lib.hid hx
  have Hb := Lib.hid hb
  have Hn := Lib.hid hn
  cases hi : isTag xs t with
  | false =>
    have Hi := Lib.hid hi
    cases xs with
    | nil =>
      simp at hn
      subst hn
      clear hb hx hi t0 t1
      cases df
      all_goals (
        go_enter Try.func27, Try.ntmps27
        go_wp2_with fail
        refine T.out.mono ?_
        rintro e w' ⟨rfl, rfl⟩
        go_wp2_with fail
        refine (fits_any _ _ c _ h0).mono ?_
        rintro e w' ⟨rfl, rfl⟩
        go_wp2_with fail
        refine K.out.mono ?_
        rintro e w1 ⟨ok, v, y, ⟨a2, c2, rfl, _, _, q4, p1⟩, m1, _⟩
        obtain ⟨rfl, rfl, rfl⟩ := m1 Hi.out
        go_wp2_with fail
        refine (same_any a2 a _ c2 _ c [] [] w1 w1.heap.size rfl rfl q4 (BIn.nil _ _ _) Byt.nil Byt.nil).mono ?_
        rintro e w2 ⟨rfl, rfl⟩
        go_wp2
        go_ret
        exact ⟨ret_bool (by simp), p1⟩)
    | cons x r =>
      obtain ⟨b, o, rfl, _, hcell⟩ := hb (by simp)
      have e0 : w.cell? ⟨b, o, none⟩ = some (.int .u8 x) := hcell 0 (by simp)
      have hbs := World.block_lt_of_cell? w _ e0
      obtain ⟨x0, x1⟩ := hx x (by simp)
      have hxt : (x == t) = false := hi
      have hxt2 : (x != t) = true := by rw [bne, hxt]; rfl
      have i0 : (0 : Int) < (n : Int) := by simp at hn; omega
      have i1 : ((n : Int) == 0) = false := by simp; omega
      clear hb hx hi t0 t1 hcell hn
      cases df
      all_goals (
        go_enter Try.func27, Try.ntmps27
        go_wp2_with fail
        refine T.out.mono ?_
        rintro e w' ⟨rfl, rfl⟩
        go_wp2_with fail
        refine (fits_any _ _ c _ h0).mono ?_
        rintro e w' ⟨rfl, rfl⟩
        go_wp2_with fail
        refine K.out.mono ?_
        rintro e w1 ⟨ok, v, y, ⟨a2, c2, rfl, _, _, q4, p1⟩, m1, _⟩
        obtain ⟨rfl, rfl, rfl⟩ := m1 Hi.out
        rw [Hn.out]
        have e1 : w1.cell? ⟨b, o, none⟩ = some (.int .u8 x) := (p1.cell (p := ⟨b, o, none⟩) hbs).trans e0
        clear e0
        go_wp2_with fail
        refine (same_any a2 (some ⟨b, o, none⟩) n c2 n c (x :: r) (x :: r) w1 w1.heap.size Hn.out Hn.out q4 ((Hb.out.below p1).lt) Hx.out Hx.out).mono ?_
        rintro e w2 ⟨rfl, rfl⟩
        go_wp2
        go_ret
        exact ⟨ret_bool (by simp), p1⟩)
  | true =>
    have Hi := Lib.hid hi
    cases xs with
    | nil => cases hi
    | cons x r =>
      obtain ⟨b, o, rfl, _, hcell⟩ := hb (by simp)
      have e0 : w.cell? ⟨b, o, none⟩ = some (.int .u8 x) := hcell 0 (by simp)
      have hbs := World.block_lt_of_cell? w _ e0
      obtain ⟨x0, x1⟩ := hx x (by simp)
      have hxt : (x == t) = true := hi
      have hxt2 : (x != t) = false := by rw [bne, hxt]; rfl
      have i0 : (0 : Int) < (n : Int) := by simp at hn; omega
      have i1 : ((n : Int) == 0) = false := by simp; omega
      cases hf : firstOf (x :: r) t with
      | none =>
        have Hf := Lib.hid hf
        have Ho := Lib.hid (show optBool (x :: r) t = none by simp [optBool, hf])
        clear hb hx hi t0 t1 hcell hn hf
        go_enter Try.func27, Try.ntmps27
        go_wp2_with fail
        refine T.out.mono ?_
        rintro e w' ⟨rfl, rfl⟩
        go_wp2_with fail
        refine (fits_any _ _ c _ h0).mono ?_
        rintro e w' ⟨rfl, rfl⟩
        go_wp2_with fail
        refine K.out.mono ?_
        rintro e w1 ⟨ok, v, y, ⟨a2, c2, rfl, _, _, q4, p1⟩, _, m2⟩
        obtain ⟨k1, k2⟩ := m2 Hi.out
        rw [Ho.out] at k1
        have k1' : ok = false := k1.symm
        subst k1'
        clear k2
        have e1 : w1.cell? ⟨b, o, none⟩ = some (.int .u8 x) := (p1.cell (p := ⟨b, o, none⟩) hbs).trans e0
        clear e0 k1 m2
        go_wp2_with fail
        refine (D.out w1 p1).mono ?_
        intro e w2 hp
        obtain ⟨p2, hp⟩ := hp
        rw [Hf.out] at hp
        have p12 := p1.trans (p2.mono p1.size)
        simp only at hp
        subst hp
        go_wp2_with fail
        refine (D0.out w2 p12).mono ?_
        intro e w3 hp
        obtain ⟨p3, hp⟩ := hp
        rw [D00.out] at hp
        simp only at hp
        subst hp
        have p13 := p12.trans (p3.mono p12.size)
        go_wp2_with fail
        refine (boolOf_any none 0 0 [] w3.heap.size w3 rfl (BIn.nil _ _ _)).mono ?_
        rintro e w4 ⟨rfl, rfl⟩
        go_wp2
        go_ret
        exact ⟨rfl, p13⟩
      | some v =>
        obtain ⟨out, rest⟩ := v
        have Hf := Lib.hid hf
        have Hrb := Lib.hid (show Byt rest by obtain ⟨b, k, _, _, hr, _⟩ := firstOf_inv hf; rw [hr]; exact hx.drop _)
        have Hob := Lib.hid (show Byt out by obtain ⟨b, k, _, hr, _⟩ := firstOf_inv hf; rw [hr]; exact (hx.take _).drop _)
        have Hol := Lib.hid (show out.length ≤ 4194304000 by obtain ⟨b, k, _, hr, _⟩ := firstOf_inv hf; rw [hr, List.length_drop, List.length_take]; omega)
        cases hf2 : firstOf out 1 with
        | none =>
          have Hf2 := Lib.hid hf2
          have Ho := Lib.hid (show optBool (x :: r) t = none by simp [optBool, boolRead, hf, hf2])
          clear hb hx hi t0 t1 hcell hn hf hf2
          go_enter Try.func27, Try.ntmps27
          go_wp2_with fail
          refine T.out.mono ?_
          rintro e w' ⟨rfl, rfl⟩
          go_wp2_with fail
          refine (fits_any _ _ c _ h0).mono ?_
          rintro e w' ⟨rfl, rfl⟩
          go_wp2_with fail
          refine K.out.mono ?_
          rintro e w1 ⟨ok, v, y, ⟨a2, c2, rfl, _, _, q4, p1⟩, _, m2⟩
          obtain ⟨k1, k2⟩ := m2 Hi.out
          rw [Ho.out] at k1
          have k1' : ok = false := k1.symm
          subst k1'
          clear k2
          have e1 : w1.cell? ⟨b, o, none⟩ = some (.int .u8 x) := (p1.cell (p := ⟨b, o, none⟩) hbs).trans e0
          clear e0 k1 m2
          go_wp2_with fail
          refine (D.out w1 p1).mono ?_
          intro e w2 hp
          obtain ⟨p2, hp⟩ := hp
          rw [Hf.out] at hp
          have p12 := p1.trans (p2.mono p1.size)
          obtain ⟨a3, c3, a4, c4, rfl, u1, u2, _, _, s3, s4⟩ := hp
          go_wp2_with fail
          refine (D2.out a3 c3 out w2 p12 u1 u2 s3 Hob.out Hol.out).mono ?_
          intro e w3 hp
          obtain ⟨p3, hp⟩ := hp
          rw [Hf2.out] at hp
          simp only at hp
          subst hp
          have p13 := p12.trans (p3.mono p12.size)
          go_wp2_with fail
          refine (boolOf_any none 0 0 [] w3.heap.size w3 rfl (BIn.nil _ _ _)).mono ?_
          rintro e w4 ⟨rfl, rfl⟩
          go_wp2
          go_ret
          exact ⟨rfl, p13⟩
        | some v =>
          obtain ⟨o2, r2⟩ := v
          have Hf2 := Lib.hid hf2
          cases hbo : boolOf o2 with
          | none =>
            have Hbo := Lib.hid hbo
            have Ho := Lib.hid (show optBool (x :: r) t = none by simp [optBool, boolRead, hf, hf2, hbo])
            clear hb hx hi t0 t1 hcell hn hf hf2 hbo
            go_enter Try.func27, Try.ntmps27
            go_wp2_with fail
            refine T.out.mono ?_
            rintro e w' ⟨rfl, rfl⟩
            go_wp2_with fail
            refine (fits_any _ _ c _ h0).mono ?_
            rintro e w' ⟨rfl, rfl⟩
            go_wp2_with fail
            refine K.out.mono ?_
            rintro e w1 ⟨ok, v, y, ⟨a2, c2, rfl, _, _, q4, p1⟩, _, m2⟩
            obtain ⟨k1, k2⟩ := m2 Hi.out
            rw [Ho.out] at k1
            have k1' : ok = false := k1.symm
            subst k1'
            clear k2
            have e1 : w1.cell? ⟨b, o, none⟩ = some (.int .u8 x) := (p1.cell (p := ⟨b, o, none⟩) hbs).trans e0
            clear e0 k1 m2
            go_wp2_with fail
            refine (D.out w1 p1).mono ?_
            intro e w2 hp
            obtain ⟨p2, hp⟩ := hp
            rw [Hf.out] at hp
            have p12 := p1.trans (p2.mono p1.size)
            obtain ⟨a3, c3, a4, c4, rfl, u1, u2, _, _, s3, s4⟩ := hp
            go_wp2_with fail
            refine (D2.out a3 c3 out w2 p12 u1 u2 s3 Hob.out Hol.out).mono ?_
            intro e w3 hp
            obtain ⟨p3, hp⟩ := hp
            rw [Hf2.out] at hp
            obtain ⟨a5, c5, a6, c6, rfl, _, _, _, _, s5, s6⟩ := hp
            have p13 := p12.trans (p3.mono p12.size)
            go_wp2_with fail
            refine (boolOf_any a5 o2.length c5 o2 w.heap.size w3 rfl s5).mono ?_
            rw [Hbo.out]
            rintro e w4 ⟨rfl, rfl⟩
            go_wp2
            go_ret
            exact ⟨rfl, p13⟩
          | some u =>
            have Hbo := Lib.hid hbo
            have Ho := Lib.hid (show optBool (x :: r) t = some (u, rest) by simp [optBool, boolRead, hf, hf2, hbo])
            clear hb hx hi t0 t1 hcell hn hf hf2 hbo
            rcases Nat.eq_zero_or_pos r2.length with h3 | h3
            · cases u
              all_goals (
                go_enter Try.func27, Try.ntmps27
                go_wp2_with fail
                refine T.out.mono ?_
                rintro e w' ⟨rfl, rfl⟩
                go_wp2_with fail
                refine (fits_any _ _ c _ h0).mono ?_
                rintro e w' ⟨rfl, rfl⟩
                go_wp2_with fail
                refine K.out.mono ?_
                rintro e w1 ⟨ok, v, y, ⟨a2, c2, rfl, _, _, q4, p1⟩, _, m2⟩
                obtain ⟨k1, k2⟩ := m2 Hi.out
                rw [Ho.out] at k1
                have k1' : ok = true := k1.symm
                subst k1'
                obtain ⟨rfl, rfl⟩ := k2 _ _ Ho.out
                have e1 : w1.cell? ⟨b, o, none⟩ = some (.int .u8 x) := (p1.cell (p := ⟨b, o, none⟩) hbs).trans e0
                clear e0 k1 m2
                go_wp2_with fail
                refine (D.out w1 p1).mono ?_
                intro e w2 hp
                obtain ⟨p2, hp⟩ := hp
                rw [Hf.out] at hp
                have p12 := p1.trans (p2.mono p1.size)
                obtain ⟨a3, c3, a4, c4, rfl, u1, u2, _, _, s3, s4⟩ := hp
                go_wp2_with fail
                refine (D2.out a3 c3 out w2 p12 u1 u2 s3 Hob.out Hol.out).mono ?_
                intro e w3 hp
                obtain ⟨p3, hp⟩ := hp
                rw [Hf2.out] at hp
                obtain ⟨a5, c5, a6, c6, rfl, _, _, _, _, s5, s6⟩ := hp
                have p13 := p12.trans (p3.mono p12.size)
                rw [h3]
                go_wp2_with fail
                refine (boolOf_any a5 o2.length c5 o2 w.heap.size w3 rfl s5).mono ?_
                rw [Hbo.out]
                rintro e w4 ⟨rfl, rfl⟩
                go_wp2_with fail
                refine (same_any a2 a4 _ c2 _ c4 y y w3 w3.heap.size rfl rfl (((q4.below p2).lt.below p3).lt) ((s4.below (p3.mono p12.size)).lt) Hrb.out Hrb.out).mono ?_
                rintro e w5 ⟨rfl, rfl⟩
                go_wp2
                go_ret
                exact ⟨ret_bool (by simp), p13⟩)
            · have h4 := h3
              go_enter Try.func27, Try.ntmps27
              go_wp2_with fail
              refine T.out.mono ?_
              rintro e w' ⟨rfl, rfl⟩
              go_wp2_with fail
              refine (fits_any _ _ c _ h0).mono ?_
              rintro e w' ⟨rfl, rfl⟩
              go_wp2_with fail
              refine K.out.mono ?_
              rintro e w1 ⟨ok, v, y, ⟨a2, c2, rfl, _, _, q4, p1⟩, _, m2⟩
              obtain ⟨k1, k2⟩ := m2 Hi.out
              rw [Ho.out] at k1
              have k1' : ok = true := k1.symm
              subst k1'
              obtain ⟨rfl, rfl⟩ := k2 _ _ Ho.out
              have e1 : w1.cell? ⟨b, o, none⟩ = some (.int .u8 x) := (p1.cell (p := ⟨b, o, none⟩) hbs).trans e0
              clear e0 k1 m2
              go_wp2_with fail
              refine (D.out w1 p1).mono ?_
              intro e w2 hp
              obtain ⟨p2, hp⟩ := hp
              rw [Hf.out] at hp
              have p12 := p1.trans (p2.mono p1.size)
              obtain ⟨a3, c3, a4, c4, rfl, u1, u2, _, _, s3, s4⟩ := hp
              go_wp2_with fail
              refine (D2.out a3 c3 out w2 p12 u1 u2 s3 Hob.out Hol.out).mono ?_
              intro e w3 hp
              obtain ⟨p3, hp⟩ := hp
              rw [Hf2.out] at hp
              obtain ⟨a5, c5, a6, c6, rfl, _, _, _, _, s5, s6⟩ := hp
              have p13 := p12.trans (p3.mono p12.size)
              obtain ⟨m, hmm⟩ : ∃ m, r2.length = m := ⟨_, rfl⟩
              rw [hmm]
              rw [hmm] at h3
              have h3' : (0 : Int) < (m : Int) := by omega
              go_wp2_with fail
              refine (boolOf_any a5 o2.length c5 o2 w.heap.size w3 rfl s5).mono ?_
              rw [Hbo.out]
              rintro e w4 ⟨rfl, rfl⟩
              go_wp2
              go_ret
              exact ⟨rfl, p13⟩

set_option maxRecDepth 100000 in
set_option maxHeartbeats 800000 in
theorem walk_FnExactReadOptionalBool (w : World) (a : Option Addr) (n c : Nat) (xs : List Int) (hn : xs.length = n) (hb : BIn w w.heap.size a xs) (hx : Byt xs) (hc : n ≤ c) (hm : c ≤ maxLen) (t : Int) (wt : (Lit.int .i64 t).wf = true) (df : Bool) :
    Calls Try.prog 27 #[.slice a n c, .int .i64 t, .bool df] w fun e w' => e = .returned (.bool true) ∧ Below w.heap.size w w' := by
  by_cases ht : 0 ≤ t ∧ t ≤ 255
  · by_cases h0 : n ≤ 1048576
    · exact main_FnExactReadOptionalBool w a n c xs hn hb hx hc hm h0 t ht.1 ht.2 df
    · by_cases hz : n ≤ 2147483647
      · have T := Lib.hid (tagOk_yes t w ht.1 ht.2)
        clear ht wt
        go_enter Try.func27, Try.ntmps27
        go_wp2_with fail
        refine T.out.mono ?_
        rintro e w' ⟨rfl, rfl⟩
        go_wp2_with fail
        refine (fits_no a n c _ (by omega)).mono ?_
        rintro e w' ⟨rfl, rfl⟩
        go_wp2
        go_ret
        exact ⟨rfl, Below.refl _ _⟩
      · clear ht wt
        go_enter Try.func27, Try.ntmps27
        go_wp2
        go_ret
        exact ⟨rfl, Below.refl _ _⟩
  · by_cases hz : n ≤ 2147483647
    · have T := Lib.hid (tagOk_no t w (by omega))
      clear ht wt
      go_enter Try.func27, Try.ntmps27
      go_wp2_with fail
      refine T.out.mono ?_
      rintro e w' ⟨rfl, rfl⟩
      go_wp2
      go_ret
      exact ⟨rfl, Below.refl _ _⟩
    · clear ht wt
      go_enter Try.func27, Try.ntmps27
      go_wp2
      go_ret
      exact ⟨rfl, Below.refl _ _⟩
end Go.Proofs.Ytcimjejbakgadaa
