/- The walk of laws.FnExactReadOptional. -/
import Derived.Test.YtcimjejbakgadaaSpecOf
import Derived.Test.YtcimjejbakgadaaImpOpt
namespace Go.Proofs.Ytcimjejbakgadaa
open Go.RowKit
set_option linter.unusedVariables false

set_option maxRecDepth 100000 in
set_option maxHeartbeats 1600000 in
theorem main_FnExactReadOptional (w : World) (a : Option Addr) (n c : Nat) (xs : List Int) (hn : xs.length = n) (hb : BIn w w.heap.size a xs) (hx : Byt xs) (hc : n ≤ c) (hm : c ≤ maxLen) (h0 : n ≤ 1048576) (t : Int) (t0 : 0 ≤ t) (t1 : t ≤ 255) :
    Calls Try.prog 21 #[.slice a n c, .int .i64 t] w fun e w' => e = .returned (.bool true) ∧ Below w.heap.size w w' := by
  have T := Lib.hid (tagOk_yes t w t0 t1)
  have K := Lib.hid (iReadOpt_any a n c xs t w hn hb hx (by omega) t0 t1)
  have D := Lib.hid (fun W (hB : Below w.heap.size w W) => firstOf_any a n c xs t w.heap.size W hn hc hm (hb.below hB) hB.size hx (by omega))
  have Hx := Lib.hid hx
  have Hb := Lib.hid hb
  have Hn := Lib.hid hn
  cases hi : isTag xs t with
  | false =>
    have Hi := Lib.hid hi
    cases xs with
    | nil =>
      simp at hn
      subst hn
      clear hb hx hi t0 t1
      go_enter Try.func21, Try.ntmps21
      go_wp2_with fail
      refine T.out.mono ?_
      rintro e w' ⟨rfl, rfl⟩
      go_wp2_with fail
      refine (fits_any _ _ c _ h0).mono ?_
      rintro e w' ⟨rfl, rfl⟩
      go_wp2_with fail
      refine K.out.mono ?_
      rintro e w1 ⟨ok, y1, y2, ⟨a1, c1, a2, c2, rfl, _, _, _, _, _, q4, p1⟩, m1, _⟩
      obtain ⟨rfl, rfl⟩ := m1 Hi.out
      rw [Hi.out]
      go_wp2_with fail
      refine (same_any a2 a _ c2 _ c [] [] w1 w1.heap.size rfl rfl q4 (BIn.nil _ _ _) Byt.nil Byt.nil).mono ?_
      rintro e w2 ⟨rfl, rfl⟩
      go_wp2
      go_ret
      exact ⟨ret_bool (by simp), p1⟩
    | cons x r =>
      obtain ⟨b, o, rfl, _, hcell⟩ := hb (by simp)
      have e0 : w.cell? ⟨b, o, none⟩ = some (.int .u8 x) := hcell 0 (by simp)
      have hbs := World.block_lt_of_cell? w _ e0
      obtain ⟨x0, x1⟩ := hx x (by simp)
      have hxt : (x == t) = false := hi
      have hxt2 : (x != t) = true := by rw [bne, hxt]; rfl
      have i0 : (0 : Int) < (n : Int) := by simp at hn; omega
      have i1 : ((n : Int) == 0) = false := by simp; omega
      clear hb hx hi t0 t1 hcell hn
      go_enter Try.func21, Try.ntmps21
      go_wp2_with fail
      refine T.out.mono ?_
      rintro e w' ⟨rfl, rfl⟩
      go_wp2_with fail
      refine (fits_any _ _ c _ h0).mono ?_
      rintro e w' ⟨rfl, rfl⟩
      go_wp2_with fail
      refine K.out.mono ?_
      rintro e w1 ⟨ok, y1, y2, ⟨a1, c1, a2, c2, rfl, _, _, _, _, _, q4, p1⟩, m1, _⟩
      obtain ⟨rfl, rfl⟩ := m1 Hi.out
      rw [Hi.out, Hn.out]
      have e1 : w1.cell? ⟨b, o, none⟩ = some (.int .u8 x) := (p1.cell (p := ⟨b, o, none⟩) hbs).trans e0
      clear e0
      go_wp2_with fail
      refine (same_any a2 (some ⟨b, o, none⟩) n c2 n c (x :: r) (x :: r) w1 w1.heap.size Hn.out Hn.out q4 ((Hb.out.below p1).lt) Hx.out Hx.out).mono ?_
      rintro e w2 ⟨rfl, rfl⟩
      go_wp2
      go_ret
      exact ⟨ret_bool (by simp), p1⟩
  | true =>
    have Hi := Lib.hid hi
    cases xs with
    | nil => cases hi
    | cons x r =>
      obtain ⟨b, o, rfl, _, hcell⟩ := hb (by simp)
      have e0 : w.cell? ⟨b, o, none⟩ = some (.int .u8 x) := hcell 0 (by simp)
      have hbs := World.block_lt_of_cell? w _ e0
      obtain ⟨x0, x1⟩ := hx x (by simp)
      have hxt : (x == t) = true := hi
      have hxt2 : (x != t) = false := by rw [bne, hxt]; rfl
      have i0 : (0 : Int) < (n : Int) := by simp at hn; omega
      have i1 : ((n : Int) == 0) = false := by simp; omega
      cases hf : firstOf (x :: r) t with
      | none =>
        have Hf := Lib.hid hf
        clear hb hx hi t0 t1 hcell hn hf
        go_enter Try.func21, Try.ntmps21
        go_wp2_with fail
        refine T.out.mono ?_
        rintro e w' ⟨rfl, rfl⟩
        go_wp2_with fail
        refine (fits_any _ _ c _ h0).mono ?_
        rintro e w' ⟨rfl, rfl⟩
        go_wp2_with fail
        refine K.out.mono ?_
        rintro e w1 ⟨ok, y1, y2, ⟨a1, c1, a2, c2, rfl, _, _, _, _, _, q4, p1⟩, _, m2⟩
        obtain ⟨k1, _⟩ := m2 Hi.out
        rw [Hf.out] at k1
        have k1' : ok = false := k1.symm
        subst k1'
        rw [Hi.out]
        have e1 : w1.cell? ⟨b, o, none⟩ = some (.int .u8 x) := (p1.cell (p := ⟨b, o, none⟩) hbs).trans e0
        clear e0 k1 m2
        go_wp2_with fail
        refine (D.out w1 p1).mono ?_
        intro e w2 hp
        obtain ⟨p2, hp⟩ := hp
        rw [Hf.out] at hp
        simp only at hp
        subst hp
        go_wp2
        go_ret
        exact ⟨rfl, p1.trans (p2.mono p1.size)⟩
      | some v =>
        obtain ⟨out, rest⟩ := v
        have Hf := Lib.hid hf
        have Hr := Lib.hid (show Byt rest by obtain ⟨b, k, _, _, hr, _⟩ := firstOf_inv hf; rw [hr]; exact hx.drop _)
        have Ho := Lib.hid (show Byt out by obtain ⟨b, k, _, hr, _⟩ := firstOf_inv hf; rw [hr]; exact (hx.take _).drop _)
        clear hb hx hi t0 t1 hcell hn hf
        go_enter Try.func21, Try.ntmps21
        go_wp2_with fail
        refine T.out.mono ?_
        rintro e w' ⟨rfl, rfl⟩
        go_wp2_with fail
        refine (fits_any _ _ c _ h0).mono ?_
        rintro e w' ⟨rfl, rfl⟩
        go_wp2_with fail
        refine K.out.mono ?_
        rintro e w1 ⟨ok, y1, y2, ⟨a1, c1, a2, c2, rfl, _, _, _, _, q3, q4, p1⟩, _, m2⟩
        obtain ⟨k1, k2⟩ := m2 Hi.out
        rw [Hf.out] at k1
        have k1' : ok = true := k1.symm
        subst k1'
        obtain ⟨rfl, rfl⟩ := k2 _ _ Hf.out
        rw [Hi.out]
        have e1 : w1.cell? ⟨b, o, none⟩ = some (.int .u8 x) := (p1.cell (p := ⟨b, o, none⟩) hbs).trans e0
        clear e0 k1 k2 m2
        go_wp2_with fail
        refine (D.out w1 p1).mono ?_
        intro e w2 hp
        obtain ⟨p2, hp⟩ := hp
        rw [Hf.out] at hp
        obtain ⟨a3, c3, a4, c4, rfl, _, _, _, _, s3, s4⟩ := hp
        have p12 := p1.trans (p2.mono p1.size)
        go_wp2_with fail
        refine (same_any a1 a3 _ c1 _ c3 y2 y2 w2 w2.heap.size rfl rfl ((q3.below p2).lt) s3.lt Ho.out Ho.out).mono ?_
        rintro e w3 ⟨rfl, rfl⟩
        have z1 : decide (y2 = y2) = true := by simp
        rw [z1]
        go_wp2_with fail
        refine (same_any a2 a4 _ c2 _ c4 y1 y1 w2 w2.heap.size rfl rfl ((q4.below p2).lt) s4.lt Hr.out Hr.out).mono ?_
        rintro e w3 ⟨rfl, rfl⟩
        go_wp2
        go_ret
        exact ⟨ret_bool (by simp), p12⟩

-- PRE (printed by gen_pre.py of this folder)
set_option maxRecDepth 100000 in
set_option maxHeartbeats 800000 in
theorem walk_FnExactReadOptional (w : World) (a : Option Addr) (n c : Nat) (xs : List Int) (hn : xs.length = n) (hb : BIn w w.heap.size a xs) (hx : Byt xs) (hc : n ≤ c) (hm : c ≤ maxLen) (t : Int) (wt : (Lit.int .i64 t).wf = true) :
    Calls Try.prog 21 #[.slice a n c, .int .i64 t] w fun e w' => e = .returned (.bool true) ∧ Below w.heap.size w w' := by
  by_cases ht : 0 ≤ t ∧ t ≤ 255
  · by_cases h0 : n ≤ 1048576
    · exact main_FnExactReadOptional w a n c xs hn hb hx hc hm h0 t ht.1 ht.2
    · by_cases hz : n ≤ 2147483647
      · have T := Lib.hid (tagOk_yes t w ht.1 ht.2)
        clear ht wt
        go_enter Try.func21, Try.ntmps21
        go_wp2_with fail
        refine T.out.mono ?_
        rintro e w' ⟨rfl, rfl⟩
        go_wp2_with fail
        refine (fits_no a n c _ (by omega)).mono ?_
        rintro e w' ⟨rfl, rfl⟩
        go_wp2
        go_ret
        exact ⟨rfl, Below.refl _ _⟩
      · clear ht wt
        go_enter Try.func21, Try.ntmps21
        go_wp2
        go_ret
        exact ⟨rfl, Below.refl _ _⟩
  · by_cases hz : n ≤ 2147483647
    · have T := Lib.hid (tagOk_no t w (by omega))
      clear ht wt
      go_enter Try.func21, Try.ntmps21
      go_wp2_with fail
      refine T.out.mono ?_
      rintro e w' ⟨rfl, rfl⟩
      go_wp2
      go_ret
      exact ⟨rfl, Below.refl _ _⟩
    · clear ht wt
      go_enter Try.func21, Try.ntmps21
      go_wp2
      go_ret
      exact ⟨rfl, Below.refl _ _⟩
end Go.Proofs.Ytcimjejbakgadaa
