/- The contracts of (*String).ReadASN1BitString and of impl.ReadBits. -/
import Derived.Test.YtndknmchhhljcaaSpecBits
import Derived.Test.YtndknmchhhljcaaBytS
import Derived.Test.YtndknmchhhljcaaImpAny
namespace Go.Proofs.Ytndknmchhhljcaa
open Go.RowKit
set_option linter.unusedVariables false

/-- The bits of the first element, how many they are, and what stands behind it. -/
def bitRead (xs : List Int) : Option ((List Int × Int) × List Int) :=
  match firstOf xs 3 with
  | some (out, rest) => match bitsVal out with | some p => some (p, rest) | none => none
  | none => none

def BitPost (B g go : Nat) (r : Option ((List Int × Int) × List Int)) (w : World) (e : Ending) (w' : World) : Prop :=
  match r with
  | some ((bs, k), rest) => e = .returned (.bool true) ∧ Fr [g, go] w w' ∧ SlB w' B g 82 rest.length rest ∧ ∃ a c, Blk w' go 109 #[.slice a bs.length c, .int .i64 k] ∧ bs.length ≤ c ∧ c ≤ maxLen ∧ BIn w' B a bs ∧ Byt bs
  | none => e = .returned (.bool false) ∧ Fr [g, go] w w' ∧ Has w' B g 82 ∧ Blk w' go 109 #[.slice none 0 0, .int .i64 0]
theorem bitPost_no {B g go : Nat} {r : Option ((List Int × Int) × List Int)} {w w' : World} (h : r = none) (f : Fr [g, go] w w') (s : Has w' B g 82) (k : Blk w' go 109 #[.slice none 0 0, .int .i64 0]) : BitPost B g go r w (.returned (.bool false)) w' := by
  subst h; exact ⟨rfl, f, s, k⟩
theorem bitPost_yes {B g go : Nat} {r : Option ((List Int × Int) × List Int)} {bs rest : List Int} {k : Int} {w w' : World} {a : Option Addr} {n c : Nat} (h : r = some ((bs, k), rest)) (f : Fr [g, go] w w') (s : SlB w' B g 82 rest.length rest) (hk : Blk w' go 109 #[.slice a n c, .int .i64 k]) (hn : bs.length = n) (hc : n ≤ c) (hm : c ≤ maxLen) (hb : BIn w' B a bs) (hy : Byt bs) : BitPost B g go r w (.returned (.bool true)) w' := by
  subst h; subst hn; exact ⟨rfl, f, s, a, c, hk, hc, hm, hb, hy⟩

theorem bitsVal_cons' (x : Int) (r : List Int) : bitsVal (x :: r) = if 7 < x ∨ (r = [] ∧ x ≠ 0) ∨ (r ≠ [] ∧ r.getD (r.length - 1) 0 % 2 ^ x.toNat ≠ 0) then none else some (r, 8 * (r.length : Int) - x) := rfl
theorem mask_u8 {z : Int} (h0 : 0 ≤ z) (h1 : z < 256) (j : Nat) (hj : j ≤ 7) : bits .and .u8 z (2 ^ j - 1) = z % 2 ^ j := by
  have h2 : (2 : Int) ^ j ≤ 128 ∧ (1 : Int) ≤ 2 ^ j := by
    have : j = 0 ∨ j = 1 ∨ j = 2 ∨ j = 3 ∨ j = 4 ∨ j = 5 ∨ j = 6 ∨ j = 7 := by omega
    rcases this with rfl | rfl | rfl | rfl | rfl | rfl | rfl | rfl <;> simp
  rw [u8_and z (2 ^ j - 1) h0 h1 (by omega) (by omega)]
  have e : ((2 : Int) ^ j - 1).toNat = 2 ^ j - 1 := by
    have : ((2 : Int) ^ j) = ((2 ^ j : Nat) : Int) := by simp
    rw [this]
    have : 1 ≤ 2 ^ j := Nat.one_le_two_pow
    omega
  rw [e, Nat.and_two_pow_sub_one_eq_mod]
  have : ((2 : Int) ^ j) = ((2 ^ j : Nat) : Int) := by simp
  rw [this]
  obtain ⟨y, rfl⟩ := Int.eq_ofNat_of_zero_le h0
  rw [Int.toNat_natCast, Int.natCast_emod]

set_option maxRecDepth 100000 in
set_option maxHeartbeats 3200000 in
theorem readBits_any (g go : Nat) (n : Nat) (xs : List Int) (B : Nat) (w : World)
    (hs : SlB w B g 82 n xs) (ho : Blk w go 109 #[.slice none 0 0, .int .i64 0]) (h1 : g ≠ go) (hB : B ≤ g) (hBo : B ≤ go) (hl : Lim n) :
    Calls Try.prog 114 #[.pointer (some ⟨g, 0, none⟩), .pointer (some ⟨go, 0, none⟩)] w (BitPost B g go (bitRead xs) w) := by
  have hg1 : g < w.heap.size := by obtain ⟨a, c, k, _⟩ := hs; exact k.lt
  have hg2 : go < w.heap.size := ho.lt
  obtain ⟨w1, hw1⟩ : ∃ w1, w1 = w.alloc (.cells #[.slice none 0 0] 82) := ⟨_, rfl⟩
  have q1 : Fr [] w w1 := by rw [hw1]; exact (Fr.refl _ w).alloc _
  have q2 : Has w1 B w.heap.size 82 := ⟨0, [], ⟨none, 0, by rw [hw1]; exact Blk.new _ _ _, Nat.le_refl _, by simp [maxLen], rfl, BIn.nil _ _ _, Byt.nil⟩, by unfold Lim; omega⟩
  have H := Lib.hid (readASN1t_any g w.heap.size n xs 3 B w1 (hs.fr q1 (by simp) (by simp)) q2 (by omega) hB (by omega) hl)
  have Ho := Lib.hid (q1.blk ho (by simp))
  have Hlen := Lib.hid hs.len
  have F : ∀ w', Fr [g, w.heap.size] w1 w' → Fr [g, go] w w' := fun w' f => (q1.mono (S' := [g, go]) (by simp)).trans f (by simp)
  have F' := Lib.hid F
  have hne : ¬ go = w.heap.size := by omega
  have hBs : B ≤ w.heap.size := by omega
  have hg3 : ¬ g = w.heap.size := by omega
  have hne2 : ¬ w.heap.size = go := by omega
  clear hs ho q1 q2 hg1 hg2 F
  subst hw1
  go_enter Try.func114, Try.ntmps114
  go_wp2_with fail
  refine H.out.mono ?_
  intro e w' hp
  unfold AsnPost at hp
  cases hf : firstOf xs 3 with
  | none =>
    have R := Lib.hid (show bitRead xs = none by unfold bitRead; rw [hf])
    rw [hf] at hp
    obtain ⟨rfl, f, s1, s2⟩ := hp
    have P := Lib.hid (bitPost_no (B := B) R.out (F'.out _ f) s1 (f.blk Ho.out (by simp; omega)))
    clear f s1 s2 hf
    go_wp2_with fail
    go_ret
    exact P.out
  | some v =>
    obtain ⟨out, rest⟩ := v
    rw [hf] at hp
    obtain ⟨rfl, f, s1, ⟨a3, c3, d1, d2, d3, d4, d5, d6⟩⟩ := hp
    have Hl : Lim rest.length ∧ Lim out.length := by
      obtain ⟨b, k, _, _, _, h3, h4, _⟩ := firstOf_inv hf
      have := hl.out; have := Hlen.out
      unfold Lim; omega
    have c0 := d1.one
    have Hf := Lib.hid f
    have Hs1 := Lib.hid s1
    have D5 := Lib.hid d5
    have D6 := Lib.hid d6
    have D1 := Lib.hid d1
    have K := Lib.hid (f.blk Ho.out (by simp; omega))
    have E := Lib.hid (show bitRead xs = (match bitsVal out with | some p => some (p, rest) | none => none) by unfold bitRead; rw [hf])
    clear f s1 hf d4 d5 d6
    cases out with
    | nil =>
      simp only [List.length_nil] at *
      have P := Lib.hid (bitPost_no (B := B) (r := bitRead xs) E.out (F'.out _ Hf.out) (Hs1.out.has Hl.1) K.out)
      clear d1
      go_wp2_with fail
      go_ret
      exact P.out
    | cons x l =>
      obtain ⟨b, o, rfl, hbB, hc⟩ := D5.out (by simp)
      have e0 : w'.cell? ⟨b, o, none⟩ = some (.int .u8 x) := hc 0 (by simp)
      obtain ⟨x0, x1⟩ := D6.out x (by simp)
      obtain ⟨q, hq⟩ : ∃ q, q = l.length := ⟨_, rfl⟩
      obtain ⟨n1, hn1⟩ : ∃ n1, n1 = q + 1 := ⟨_, rfl⟩
      have hln : (x :: l).length = n1 := by simp; omega
      rw [hln] at c0 d1 d2 Hl
      have Hl1 := Lib.hid Hl.1
      have hn1l : (n1 : Int) ≤ 4194304000 := by have := Hl.2.out; omega
      have i0 : (0 : Int) < (n1 : Int) := by omega
      have i1 : 0 < n1 := by omega
      have i2 : ((n1 : Int) == 0) = false := by simp; omega
      have i3 : ((n1 : Int) * 8 / 8 != (n1 : Int)) = false := by rw [Int.mul_ediv_cancel _ (by omega)]; simp
      obtain ⟨A1, hA1⟩ : ∃ A1, A1 = cutA (some ⟨b, o, none⟩) c3 1 := ⟨_, rfl⟩
      have sl : ∀ W, (Instr.sliceAt 82 (.slice (some ⟨b, o, none⟩) n1 c3) (some (.int .i64 1)) none none).run Try.prog W = .ok (.slice A1 q (c3 - 1)) W := fun W => by
        rw [sl_fromS (some ⟨b, o, none⟩) n1 c3 1 1 rfl (by omega) W, hA1, hn1, Nat.add_sub_cancel]
      have HA := Lib.hid hA1
      have Hq := Lib.hid hq
      have Hn1 := Lib.hid hn1
      have Hc := Lib.hid hc
      have f0 := d1.frozen 0
      have V := Lib.hid (bitsVal_cons' x l)
      have hc1 : n1 ≤ c3 := d2
      have hNo : Hid (∀ e : bitsVal (x :: l) = none, BitPost B g go (bitRead xs) w (.returned (.bool false)) (w'.setCell ⟨w.heap.size, 0, none⟩ (.slice A1 q (c3 - 1)))) := fun e => bitPost_no (by rw [E.out, e]) ((F'.out _ Hf.out).set_ (p := ⟨w.heap.size, 0, none⟩) (.inr (Nat.le_refl _)) _) ((Hs1.out.fr ((Fr.refl [w.heap.size] w').set_ (p := ⟨w.heap.size, 0, none⟩) (.inl (by simp)) _) (by simp; omega) (by simp; omega)).has Hl1.out) (K.out.far (p := ⟨w.heap.size, 0, none⟩) (by simp; omega) _)
      have hYes : Hid (∀ (k : Int) (e : bitsVal (x :: l) = some (l, k)), BitPost B g go (bitRead xs) w (.returned (.bool true)) (((w'.setCell ⟨w.heap.size, 0, none⟩ (.slice A1 q (c3 - 1))).setCell ⟨go, 1, none⟩ (.int .i64 k)).setCell ⟨go, 0, none⟩ (.slice A1 q (c3 - 1)))) := fun k e => by
        have f3 : Fr [w.heap.size, go] w' (((w'.setCell ⟨w.heap.size, 0, none⟩ (.slice A1 q (c3 - 1))).setCell ⟨go, 1, none⟩ (.int .i64 k)).setCell ⟨go, 0, none⟩ (.slice A1 q (c3 - 1))) := (((Fr.refl [w.heap.size, go] w').set_ (p := ⟨w.heap.size, 0, none⟩) (.inl (by simp)) _).set_ (p := ⟨go, 1, none⟩) (.inl (by simp)) _).set_ (p := ⟨go, 0, none⟩) (.inl (by simp)) _
        refine bitPost_yes (B := B) (bs := l) (k := k) (rest := rest) (a := A1) (n := q) (c := c3 - 1) (by rw [E.out, e]) ((F'.out _ Hf.out).trans f3 (fun i hi => by
          simp at hi
          rcases hi with rfl | rfl
          · exact .inr (Nat.le_refl _)
          · exact .inl (by simp))) (Hs1.out.fr f3 (by simp; omega) (by simp; omega)) (((K.out.far (p := ⟨w.heap.size, 0, none⟩) (by simp; omega) _).set_ 1 _).set_ 0 _) Hq.out.symm (by have := Hn1.out; omega) (by omega) ?_ (fun y hy => D6.out y (List.mem_cons_of_mem _ hy))
        have hbb := f3.bin (D5.out.cut (c := c3) (k := 1) (by simp; have := Hq.out; have := Hn1.out; omega)) (by simp; omega)
        rw [← HA.out] at hbb
        exact hbb
      have g0 : w'.cell? ⟨go, 0, none⟩ = some (.slice none 0 0) := K.out.cell 0
      have g1 : w'.cell? ⟨go, 1, none⟩ = some (.int .i64 0) := K.out.cell 1
      have gf0 := K.out.frozen 0
      have gf1 := K.out.frozen 1
      have hq1 := Lib.hid (show n1 = q + 1 from hn1)
      clear hc d1 hA1 hln Hl
      by_cases h7 : 7 < x
      · have V1 := Lib.hid (show bitsVal (x :: l) = none by rw [V.out, if_pos (.inl h7)])
        clear hq hn1
        go_wp2_with fail
        go_ret
        exact hNo.out V1.out
      · have hqi : (0 : Int) ≤ (q : Int) := by omega
        have hqu : (q : Int) ≤ 4194304000 := by omega
        cases l with
        | nil =>
          have hq0 : q = 0 := by simpa using hq
          have hn11 : n1 = 1 := by omega
          subst hq0
          subst hn11
          by_cases hx0 : x = 0
          · have V1 := Lib.hid (show bitsVal (x :: []) = some ([], 8 * ((0 : Nat) : Int) - x) by rw [V.out, if_neg (by simp; omega)]; rfl)
            have t1 : (x != 0) = false := by simp [hx0]
            subst hx0
            clear hq hn1 h7
            go_wp2_with fail
            go_ret
            exact hYes.out _ V1.out
          · have V1 := Lib.hid (show bitsVal (x :: []) = none by rw [V.out, if_pos (.inr (.inl ⟨rfl, hx0⟩))])
            have t1 : (x != 0) = true := by simp [hx0]
            clear hq hn1 hx0
            go_wp2_with fail
            go_ret
            exact hNo.out V1.out
        | cons y r =>
          have hq0 : 0 < q := by rw [hq]; simp
          have hqp : (0 : Int) < (q : Int) := by omega
          have hqe : ((q : Int) == 0) = false := by simp; omega
          have hcc : ¬ c3 = 1 := by omega
          have hA2 : A1 = some ⟨b, o + 1, none⟩ := by rw [HA.out]; unfold cutA; rw [if_neg hcc]; simp [add_plain']
          subst hA2
          have ez : w'.cell? ⟨b, o + 1 + (q - 1), none⟩ = some (.int .u8 ((y :: r).getD ((y :: r).length - 1) 0)) := by
            have := Hc.out q (by simp only [List.length_cons] at hq ⊢; omega)
            rw [show o + 1 + (q - 1) = o + q by omega, this]
            obtain ⟨j, hj⟩ : ∃ j, q = j + 1 := ⟨q - 1, by omega⟩
            rw [hj, List.getD_cons_succ, ← hq, hj] <;> first | rfl | (rw [Nat.add_sub_cancel])
          have hz : 0 ≤ (y :: r).getD ((y :: r).length - 1) 0 ∧ (y :: r).getD ((y :: r).length - 1) 0 < 256 := Byt.getD (fun z hz => D6.out z (List.mem_cons_of_mem _ hz)) _
          have E' := Lib.hid (show bitsVal (x :: y :: r) = if 7 < x ∨ (y :: r).getD ((y :: r).length - 1) 0 % 2 ^ x.toNat ≠ 0 then none else some (y :: r, 8 * (q : Int) - x) by rw [V.out, hq]; simp)
          generalize (y :: r).getD ((y :: r).length - 1) 0 = z at *
          obtain ⟨z0, z1⟩ := hz
          have hbu : ¬ b = w.heap.size := by omega
          have h8 : x = 0 ∨ x = 1 ∨ x = 2 ∨ x = 3 ∨ x = 4 ∨ x = 5 ∨ x = 6 ∨ x = 7 := by omega
          clear hq hn1 h7 V
          rcases h8 with rfl | rfl | rfl | rfl | rfl | rfl | rfl | rfl
          · have M := mask_u8 z0 z1 0 (by omega)
            simp only [Int.reducePow, Int.reduceSub] at M
            have V1 := Lib.hid (show bitsVal (0 :: y :: r) = some (y :: r, 8 * (q : Int) - 0) by rw [E'.out, if_neg (by simp <;> omega)])
            have t1 : (z % 1 != 0) = false := by simp
            clear E'
            go_wp2_with fail
            go_ret
            have := hYes.out _ V1.out
            first | exact this | (rw [show 8 * (q : Int) - 0 = (q : Int) * 8 - 0 by omega] at this; exact this) | (rw [show 8 * (q : Int) - 0 = (q : Int) * 8 by omega] at this; exact this)
          · have M := mask_u8 z0 z1 1 (by omega)
            simp only [Int.reducePow, Int.reduceSub] at M
            by_cases hzz : z % 2 = 0
            · have V1 := Lib.hid (show bitsVal (1 :: y :: r) = some (y :: r, 8 * (q : Int) - 1) by rw [E'.out, if_neg (by simp <;> omega)])
              have t1 : (z % 2 != 0) = false := by simp [hzz]
              clear hzz E'
              go_wp2_with fail
              go_ret
              have := hYes.out _ V1.out
              first | exact this | (rw [show 8 * (q : Int) - 1 = (q : Int) * 8 - 1 by omega] at this; exact this) | (rw [show 8 * (q : Int) - 1 = (q : Int) * 8 by omega] at this; exact this)
            · have V1 := Lib.hid (show bitsVal (1 :: y :: r) = none by rw [E'.out, if_pos (by simp <;> omega)])
              have t1 : (z % 2 != 0) = true := by simp [hzz]
              clear hzz E'
              go_wp2_with fail
              go_ret
              exact hNo.out V1.out
          · have M := mask_u8 z0 z1 2 (by omega)
            simp only [Int.reducePow, Int.reduceSub] at M
            by_cases hzz : z % 4 = 0
            · have V1 := Lib.hid (show bitsVal (2 :: y :: r) = some (y :: r, 8 * (q : Int) - 2) by rw [E'.out, if_neg (by simp <;> omega)])
              have t1 : (z % 4 != 0) = false := by simp [hzz]
              clear hzz E'
              go_wp2_with fail
              go_ret
              have := hYes.out _ V1.out
              first | exact this | (rw [show 8 * (q : Int) - 2 = (q : Int) * 8 - 2 by omega] at this; exact this) | (rw [show 8 * (q : Int) - 2 = (q : Int) * 8 by omega] at this; exact this)
            · have V1 := Lib.hid (show bitsVal (2 :: y :: r) = none by rw [E'.out, if_pos (by simp <;> omega)])
              have t1 : (z % 4 != 0) = true := by simp [hzz]
              clear hzz E'
              go_wp2_with fail
              go_ret
              exact hNo.out V1.out
          · have M := mask_u8 z0 z1 3 (by omega)
            simp only [Int.reducePow, Int.reduceSub] at M
            by_cases hzz : z % 8 = 0
            · have V1 := Lib.hid (show bitsVal (3 :: y :: r) = some (y :: r, 8 * (q : Int) - 3) by rw [E'.out, if_neg (by simp <;> omega)])
              have t1 : (z % 8 != 0) = false := by simp [hzz]
              clear hzz E'
              go_wp2_with fail
              go_ret
              have := hYes.out _ V1.out
              first | exact this | (rw [show 8 * (q : Int) - 3 = (q : Int) * 8 - 3 by omega] at this; exact this) | (rw [show 8 * (q : Int) - 3 = (q : Int) * 8 by omega] at this; exact this)
            · have V1 := Lib.hid (show bitsVal (3 :: y :: r) = none by rw [E'.out, if_pos (by simp <;> omega)])
              have t1 : (z % 8 != 0) = true := by simp [hzz]
              clear hzz E'
              go_wp2_with fail
              go_ret
              exact hNo.out V1.out
          · have M := mask_u8 z0 z1 4 (by omega)
            simp only [Int.reducePow, Int.reduceSub] at M
            by_cases hzz : z % 16 = 0
            · have V1 := Lib.hid (show bitsVal (4 :: y :: r) = some (y :: r, 8 * (q : Int) - 4) by rw [E'.out, if_neg (by simp <;> omega)])
              have t1 : (z % 16 != 0) = false := by simp [hzz]
              clear hzz E'
              go_wp2_with fail
              go_ret
              have := hYes.out _ V1.out
              first | exact this | (rw [show 8 * (q : Int) - 4 = (q : Int) * 8 - 4 by omega] at this; exact this) | (rw [show 8 * (q : Int) - 4 = (q : Int) * 8 by omega] at this; exact this)
            · have V1 := Lib.hid (show bitsVal (4 :: y :: r) = none by rw [E'.out, if_pos (by simp <;> omega)])
              have t1 : (z % 16 != 0) = true := by simp [hzz]
              clear hzz E'
              go_wp2_with fail
              go_ret
              exact hNo.out V1.out
          · have M := mask_u8 z0 z1 5 (by omega)
            simp only [Int.reducePow, Int.reduceSub] at M
            by_cases hzz : z % 32 = 0
            · have V1 := Lib.hid (show bitsVal (5 :: y :: r) = some (y :: r, 8 * (q : Int) - 5) by rw [E'.out, if_neg (by simp <;> omega)])
              have t1 : (z % 32 != 0) = false := by simp [hzz]
              clear hzz E'
              go_wp2_with fail
              go_ret
              have := hYes.out _ V1.out
              first | exact this | (rw [show 8 * (q : Int) - 5 = (q : Int) * 8 - 5 by omega] at this; exact this) | (rw [show 8 * (q : Int) - 5 = (q : Int) * 8 by omega] at this; exact this)
            · have V1 := Lib.hid (show bitsVal (5 :: y :: r) = none by rw [E'.out, if_pos (by simp <;> omega)])
              have t1 : (z % 32 != 0) = true := by simp [hzz]
              clear hzz E'
              go_wp2_with fail
              go_ret
              exact hNo.out V1.out
          · have M := mask_u8 z0 z1 6 (by omega)
            simp only [Int.reducePow, Int.reduceSub] at M
            by_cases hzz : z % 64 = 0
            · have V1 := Lib.hid (show bitsVal (6 :: y :: r) = some (y :: r, 8 * (q : Int) - 6) by rw [E'.out, if_neg (by simp <;> omega)])
              have t1 : (z % 64 != 0) = false := by simp [hzz]
              clear hzz E'
              go_wp2_with fail
              go_ret
              have := hYes.out _ V1.out
              first | exact this | (rw [show 8 * (q : Int) - 6 = (q : Int) * 8 - 6 by omega] at this; exact this) | (rw [show 8 * (q : Int) - 6 = (q : Int) * 8 by omega] at this; exact this)
            · have V1 := Lib.hid (show bitsVal (6 :: y :: r) = none by rw [E'.out, if_pos (by simp <;> omega)])
              have t1 : (z % 64 != 0) = true := by simp [hzz]
              clear hzz E'
              go_wp2_with fail
              go_ret
              exact hNo.out V1.out
          · have M := mask_u8 z0 z1 7 (by omega)
            simp only [Int.reducePow, Int.reduceSub] at M
            by_cases hzz : z % 128 = 0
            · have V1 := Lib.hid (show bitsVal (7 :: y :: r) = some (y :: r, 8 * (q : Int) - 7) by rw [E'.out, if_neg (by simp <;> omega)])
              have t1 : (z % 128 != 0) = false := by simp [hzz]
              clear hzz E'
              go_wp2_with fail
              go_ret
              have := hYes.out _ V1.out
              first | exact this | (rw [show 8 * (q : Int) - 7 = (q : Int) * 8 - 7 by omega] at this; exact this) | (rw [show 8 * (q : Int) - 7 = (q : Int) * 8 by omega] at this; exact this)
            · have V1 := Lib.hid (show bitsVal (7 :: y :: r) = none by rw [E'.out, if_pos (by simp <;> omega)])
              have t1 : (z % 128 != 0) = true := by simp [hzz]
              clear hzz E'
              go_wp2_with fail
              go_ret
              exact hNo.out V1.out
end Go.Proofs.Ytndknmchhhljcaa
