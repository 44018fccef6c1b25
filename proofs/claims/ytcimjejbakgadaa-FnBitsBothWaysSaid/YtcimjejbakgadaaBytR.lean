/- The contracts of readASN1Bytes, ReadASN1IntegerBytes, ReadASN1BitStringAsBytes. -/
import Derived.Test.YtcimjejbakgadaaIntC
import Derived.Test.YtcimjejbakgadaaDerAsn
namespace Go.Proofs.Ytcimjejbakgadaa
open Go.RowKit
set_option linter.unusedVariables false

def BytPost (B g go : Nat) (r : Option (List Int × List Int)) (w : World) (e : Ending) (w' : World) : Prop :=
  match r with
  | some (out, rest) => e = .returned (.bool true) ∧ Fr [g, go] w w' ∧ SlB w' B g 66 rest.length rest ∧ SlB w' B go 24 out.length out
  | none => e = .returned (.bool false) ∧ Fr [g, go] w w' ∧ Has w' B g 66 ∧ Has w' B go 24

theorem bytPost_yes {B g go : Nat} {r : Option (List Int × List Int)} {out rest : List Int} {w w' : World} (h : r = some (out, rest)) (f : Fr [g, go] w w') (s : SlB w' B g 66 rest.length rest) (k : SlB w' B go 24 out.length out) : BytPost B g go r w (.returned (.bool true)) w' := by
  subst h; exact ⟨rfl, f, s, k⟩
theorem bytPost_no {B g go : Nat} {r : Option (List Int × List Int)} {w w' : World} (h : r = none) (f : Fr [g, go] w w') (s : Has w' B g 66) (k : Has w' B go 24) : BytPost B g go r w (.returned (.bool false)) w' := by
  subst h; exact ⟨rfl, f, s, k⟩

/-- Without the zeros ahead, but for a last byte. -/
def dropz : List Int → List Int
  | x :: y :: r => if x = 0 then dropz (y :: r) else x :: y :: r
  | l => l

theorem dropz_step {xs : List Int} (h : 1 < xs.length) (h0 : xs.getD 0 0 = 0) : dropz (xs.drop 1) = dropz xs := by
  match xs, h, h0 with
  | x :: y :: r, _, h0 =>
    have : x = 0 := by simpa using h0
    subst this
    simp [dropz]
theorem dropz_one {xs : List Int} (h : ¬ 1 < xs.length) : dropz xs = xs := by
  match xs, h with
  | [], _ => rfl
  | [x], _ => rfl
  | x :: y :: r, h => simp at h
theorem dropz_done {xs : List Int} (h0 : xs.getD 0 0 ≠ 0) : dropz xs = xs := by
  match xs, h0 with
  | [], _ => rfl
  | [x], _ => rfl
  | x :: y :: r, h => simp at h; simp [dropz, h]

/-- The INTEGER from 0 on that bytes begin with, in bytes, and what stands behind it. -/
def magRead (xs : List Int) : Option (List Int × List Int) :=
  match firstOf xs 2 with
  | some (out, rest) => if isInteger out = true ∧ out.getD 0 0 < 128 then some (dropz out, rest) else none
  | none => none

theorem and128e {x : Int} (h0 : 0 ≤ x) (h1 : x < 256) : (bits .and .u8 x 128 == 128) = decide (128 ≤ x) := by
  rw [and128' h0 h1]
  by_cases h : x < 128
  · rw [if_pos h]; simp; omega
  · rw [if_neg h]; simp; omega

theorem sl_fromS (a : Option Addr) (n c : Nat) (k : Int) (m : Nat) (hk : k = m) (hn : m ≤ n) (w : World) :
    (Instr.sliceAt 66 (.slice a n c) (some (.int .i64 k)) none none).run Try.prog w = .ok (.slice (cutA a c m) (n - m) (c - m)) w := by
  subst hk
  have ht : Try.prog.underlying 66 = some (.slice (Try.prog.elem 66)) := by kernel_rfl
  have hs : ∀ w, (sizeOf (Try.prog.elem 66)).run Try.prog w = .ok 1 w := fun w => by kernel_rfl
  rw [run_sliceAt_slice w _ _ _ _ _ ht, run_slice_l w _ a n c ht _ _ (by omega) (by omega), hs]
  simp [Result.andThen, sliced, cutA]

set_option maxRecDepth 100000 in
set_option maxHeartbeats 1600000 in
theorem readBytesI_any (g go : Nat) (n : Nat) (xs : List Int) (B : Nat) (w : World)
    (hs : SlB w B g 66 n xs) (ho : Has w B go 24) (h1 : g ≠ go) (hB : B ≤ g) (hBo : B ≤ go) (hl : Lim n) :
    Calls Try.prog 105 #[.pointer (some ⟨g, 0, none⟩), .pointer (some ⟨go, 0, none⟩)] w (BytPost B g go (magRead xs) w) := by
  have hg1 : g < w.heap.size := by obtain ⟨a, c, k, _⟩ := hs; exact k.lt
  have hg2 : go < w.heap.size := by obtain ⟨m, ys, ⟨a, c, k, _⟩, _⟩ := ho; exact k.lt
  obtain ⟨w1, hw1⟩ : ∃ w1, w1 = w.alloc (.cells #[.slice none 0 0] 66) := ⟨_, rfl⟩
  have q1 : Fr [] w w1 := by rw [hw1]; exact (Fr.refl _ w).alloc _
  have q2 : Has w1 B w.heap.size 66 := ⟨0, [], ⟨none, 0, by rw [hw1]; exact Blk.new _ _ _, Nat.le_refl _, by simp [maxLen], rfl, BIn.nil _ _ _, Byt.nil⟩, by unfold Lim; omega⟩
  have H := Lib.hid (readASN1t_any g w.heap.size n xs 2 B w1 (hs.fr q1 (by simp) (by simp)) q2 (by omega) hB (by omega) hl)
  have Ho := Lib.hid (ho.fr q1 (by simp) (by simp))
  have Hlen := Lib.hid hs.len
  have F : ∀ w', Fr [g, w.heap.size] w1 w' → Fr [g, go] w w' := fun w' f => (q1.mono (S' := [g, go]) (by simp)).trans f (by simp)
  have F' := Lib.hid F
  have hne : ¬ go = w.heap.size := by omega
  have hBs : B ≤ w.heap.size := by omega
  have hg3 : ¬ g = w.heap.size := by omega
  have hne2 : ¬ w.heap.size = go := by omega
  clear hs ho q1 q2 hg1 hg2 F
  subst hw1
  go_enter Try.func105, Try.ntmps105
  go_wp2_with fail
  refine H.out.mono ?_
  intro e w' hp
  unfold AsnPost at hp
  cases hf : firstOf xs 2 with
  | none =>
    have R := Lib.hid (show magRead xs = none by unfold magRead; rw [hf])
    rw [hf] at hp
    obtain ⟨rfl, f, s1, s2⟩ := hp
    have P := Lib.hid (bytPost_no (B := B) R.out (F'.out _ f) s1 (Ho.out.fr f (by simp; omega) (by simp; omega)))
    clear f s1 s2 hf
    go_wp2_with fail
    go_ret
    exact P.out
  | some v =>
    obtain ⟨out, rest⟩ := v
    rw [hf] at hp
    obtain ⟨rfl, f, s1, ⟨a3, c3, d1, d2, d3, d4, d5, d6⟩⟩ := hp
    have R := Lib.hid (show magRead xs = if isInteger out = true ∧ out.getD 0 0 < 128 then some (dropz out, rest) else none by unfold magRead; rw [hf])
    have Hl : Lim rest.length ∧ Lim out.length := by
      obtain ⟨b, k, _, _, _, h3, h4, _⟩ := firstOf_inv hf
      have := hl.out; have := Hlen.out
      unfold Lim; omega
    have c0 := d1.one
    have Hf := Lib.hid f
    have Hs1 := Lib.hid s1
    have D5 := Lib.hid d5
    have D6 := Lib.hid d6
    have D1 := Lib.hid d1
    have K := Lib.hid (Ho.out.fr f (by simp; omega) (by simp; omega))
    clear f s1 hf d4 d5 d6
    go_wp2_with fail
    refine (check_any a3 out.length c3 out B w' rfl D5.out D6.out).mono ?_
    rintro e w2 ⟨rfl, rfl⟩
    cases hi : isInteger out with
    | false =>
      have P := Lib.hid (bytPost_no (B := B) (r := magRead xs) (by rw [R.out, if_neg (by simp [hi])]) (F'.out _ Hf.out) (Hs1.out.has Hl.1) K.out)
      clear hi
      go_wp2_with fail
      go_ret
      exact P.out
    | true =>
      have h0 : 0 < out.length := by cases out with | nil => simp [isInteger] at hi | cons => simp
      have i0 : (0 : Int) < (out.length : Int) := by omega
      obtain ⟨b, o, rfl, hbB, hc⟩ := D5.out (by omega)
      have e0 : w'.cell? ⟨b, o, none⟩ = some (.int .u8 (out.getD 0 0)) := hc 0 (by omega)
      obtain ⟨x0, x1⟩ := D6.out.getD 0
      have A := and128e x0 x1
      by_cases hx0 : 128 ≤ out.getD 0 0
      · have P := Lib.hid (bytPost_no (B := B) (r := magRead xs) (by rw [R.out, if_neg (by omega)]) (F'.out _ Hf.out) (Hs1.out.has Hl.1) K.out)
        have A' : (bits .and .u8 (out.getD 0 0) 128 == 128) = true := by rw [A]; simpa using hx0
        generalize out.getD 0 0 = x at *
        clear hi hc A
        go_wp2_with fail
        go_ret
        exact P.out
      · have R2 := Lib.hid (show magRead xs = some (dropz out, rest) by rw [R.out, if_pos ⟨hi, by omega⟩])
        have A' : (bits .and .u8 (out.getD 0 0) 128 == 128) = false := by rw [A]; simpa using hx0
        obtain ⟨x, hX⟩ : ∃ x, x = out.getD 0 0 := ⟨_, rfl⟩
        rw [← hX] at e0 A'
        clear hX hi hc A x0 x1 hx0
        go_wp2_with fail
        go_loopw [] (fun wr => ∃ l : List Int, 0 < l.length ∧ l.length ≤ out.length ∧ dropz l = dropz out ∧ SlB wr B w.heap.size 66 l.length l ∧ Fr [w.heap.size] w' wr) (fun wr => match wr.cell? ⟨w.heap.size, 0, none⟩ with | some (.slice _ m _) => m | _ => 0)
        case atStart => exact ⟨out, h0, Nat.le_refl _, rfl, ⟨_, _, D1.out, d2, d3, rfl, D5.out, D6.out⟩, Fr.refl _ _⟩
        case round =>
          obtain ⟨l, l0, l1, l2, ⟨a5, c5, k1, k2, k3, k4, k5, k6⟩, k7⟩ := hrel
          have c0 := k1.one
          have K1 := Lib.hid k1
          have K5 := Lib.hid k5
          have K6 := Lib.hid k6
          have K7 := Lib.hid k7
          have L2 := Lib.hid l2
          obtain ⟨b', o', rfl, hbB', hc'⟩ := k5 (by omega)
          have e0 : wr.cell? ⟨b', o', none⟩ = some (.int .u8 (l.getD 0 0)) := hc' 0 (by omega)
          clear k1 k5 k6 k7 l2 k4 hc'
          have f0 := K1.out.frozen 0
          obtain ⟨m6, y6, ⟨a6, c6, g1, _⟩, _⟩ := K.out.fr K7.out (by simp; omega) (by simp; omega)
          have f1 := g1.frozen 0
          have c1 := g1.one
          have G1 := Lib.hid g1
          clear g1
          by_cases hl1 : 1 < l.length
          · have i1 : (1 : Int) < (l.length : Int) := by omega
            by_cases hz : l.getD 0 0 = 0
            · have Z := Lib.hid (dropz_step hl1 hz)
              rw [hz] at e0
              clear hz
              have sl := sl_fromS (some ⟨b', o', none⟩) l.length c5 1 1 rfl (by omega)
              have Q : SlB (wr.setCell ⟨w.heap.size, 0, none⟩ (.slice (cutA (some ⟨b', o', none⟩) c5 1) (l.length - 1) (c5 - 1))) B w.heap.size 66 (l.drop 1).length (l.drop 1) :=
                ⟨cutA (some ⟨b', o', none⟩) c5 1, c5 - 1, by rw [List.length_drop]; exact K1.out.set_ 0 _, by rw [List.length_drop]; omega, by omega, rfl, ((Fr.refl [w.heap.size] wr).set_ (.inl (by simp)) _).bin (K5.out.cut (by omega)) (by simp; omega), K6.out.drop 1⟩
              have Q' := Lib.hid Q
              clear Q
              go_wp2
              go_roundw
              case rel => exact ⟨l.drop 1, by rw [List.length_drop]; omega, by rw [List.length_drop]; omega, by rw [Z.out, L2.out], Q'.out, K7.out.set_ (.inl (by simp)) _⟩
              case measure =>
                have e1 := (K1.out.set_ 0 (.slice (cutA (some ⟨b', o', none⟩) c5 1) (l.length - 1) (c5 - 1))).one
                rw [e1, c0]
                simp
                omega
            · have Z := Lib.hid (dropz_done hz)
              have t1 : (l.getD 0 0 == 0) = false := by simpa using hz
              generalize l.getD 0 0 = y at *
              clear hz
              go_wp2
              go_ret
              have q := (Fr.refl [go] wr).set_ (p := ⟨go, 0, none⟩) (.inl (by simp)) (.slice (some ⟨b', o', none⟩) l.length c5)
              exact bytPost_yes (B := B) (rest := rest) (out := l) (by rw [R2.out, ← L2.out, Z.out]) (((F'.out _ Hf.out).trans K7.out (by simp)).set_ (.inl (by simp)) _) ((Hs1.out.fr K7.out (by simp; omega) (by simp; omega)).fr q (by simp; omega) (by simp; omega)) ⟨_, _, G1.out.set_ 0 _, k2, k3, rfl, q.bin K5.out (by simp; omega), K6.out⟩
          · have Z := Lib.hid (dropz_one hl1)
            have i1 : ¬ (1 : Int) < (l.length : Int) := by omega
            go_wp2
            go_ret
            have q := (Fr.refl [go] wr).set_ (p := ⟨go, 0, none⟩) (.inl (by simp)) (.slice (some ⟨b', o', none⟩) l.length c5)
            exact bytPost_yes (B := B) (rest := rest) (out := l) (by rw [R2.out, ← L2.out, Z.out]) (((F'.out _ Hf.out).trans K7.out (by simp)).set_ (.inl (by simp)) _) ((Hs1.out.fr K7.out (by simp; omega) (by simp; omega)).fr q (by simp; omega) (by simp; omega)) ⟨_, _, G1.out.set_ 0 _, k2, k3, rfl, q.bin K5.out (by simp; omega), K6.out⟩
end Go.Proofs.Ytcimjejbakgadaa
