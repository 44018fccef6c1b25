/- The contracts of ReadASN1IntegerBytes, ReadASN1BitStringAsBytes. -/
import Derived.Test.YtcimjejbakgadaaBytR
namespace Go.Proofs.Ytcimjejbakgadaa
open Go.RowKit
set_option linter.unusedVariables false

theorem readIntegerBytes_any (g go : Nat) (n : Nat) (xs : List Int) (B : Nat) (w : World)
    (hs : SlB w B g 66 n xs) (ho : Has w B go 24) (h1 : g ≠ go) (hB : B ≤ g) (hBo : B ≤ go) (hl : Lim n) :
    Calls Try.prog 94 #[.pointer (some ⟨g, 0, none⟩), .pointer (some ⟨go, 0, none⟩)] w (BytPost B g go (magRead xs) w) := by
  have H := Lib.hid (readBytesI_any g go n xs B w hs ho h1 hB hBo hl)
  clear hs ho
  go_enter Try.func94, Try.ntmps94
  go_wp2_with fail
  refine H.out.mono ?_
  intro e w' hp
  cases hf : magRead xs with
  | none =>
    have Hf := Lib.hid hf
    rw [hf] at hp
    obtain ⟨rfl, f, s1, s2⟩ := hp
    have P := Lib.hid (bytPost_no (B := B) Hf.out f s1 s2)
    clear f s1 s2 hf
    go_wp2_with fail
    go_ret
    exact P.out
  | some v =>
    obtain ⟨out, rest⟩ := v
    have Hf := Lib.hid hf
    rw [hf] at hp
    obtain ⟨rfl, f, s1, s2⟩ := hp
    have P := Lib.hid (bytPost_yes (B := B) Hf.out f s1 s2)
    clear f s1 s2 hf
    go_wp2_with fail
    go_ret
    exact P.out

/-- The BIT STRING of whole bytes that bytes begin with, and what stands behind it. -/
def padRead (xs : List Int) : Option (List Int × List Int) :=
  match firstOf xs 3 with
  | some (x :: out, rest) => if x = 0 then some (out, rest) else none
  | _ => none

set_option maxRecDepth 100000 in
set_option maxHeartbeats 1600000 in
theorem readBitsB_any (g go : Nat) (n : Nat) (xs : List Int) (B : Nat) (w : World)
    (hs : SlB w B g 66 n xs) (ho : Has w B go 24) (h1 : g ≠ go) (hB : B ≤ g) (hBo : B ≤ go) (hl : Lim n) :
    Calls Try.prog 92 #[.pointer (some ⟨g, 0, none⟩), .pointer (some ⟨go, 0, none⟩)] w (BytPost B g go (padRead xs) w) := by
  have hg1 : g < w.heap.size := by obtain ⟨a, c, k, _⟩ := hs; exact k.lt
  have hg2 : go < w.heap.size := by obtain ⟨m, ys, ⟨a, c, k, _⟩, _⟩ := ho; exact k.lt
  obtain ⟨w1, hw1⟩ : ∃ w1, w1 = w.alloc (.cells #[.slice none 0 0] 66) := ⟨_, rfl⟩
  have q1 : Fr [] w w1 := by rw [hw1]; exact (Fr.refl _ w).alloc _
  have q2 : Has w1 B w.heap.size 66 := ⟨0, [], ⟨none, 0, by rw [hw1]; exact Blk.new _ _ _, Nat.le_refl _, by simp [maxLen], rfl, BIn.nil _ _ _, Byt.nil⟩, by unfold Lim; omega⟩
  have H := Lib.hid (readASN1t_any g w.heap.size n xs 3 B w1 (hs.fr q1 (by simp) (by simp)) q2 (by omega) hB (by omega) hl)
  have Ho := Lib.hid (ho.fr q1 (by simp) (by simp))
  have Hlen := Lib.hid hs.len
  have F : ∀ w', Fr [g, w.heap.size] w1 w' → Fr [g, go] w w' := fun w' f => (q1.mono (S' := [g, go]) (by simp)).trans f (by simp)
  have F' := Lib.hid F
  have hne : ¬ go = w.heap.size := by omega
  have hBs : B ≤ w.heap.size := by omega
  have hg3 : ¬ g = w.heap.size := by omega
  have hne2 : ¬ w.heap.size = go := by omega
  clear hs ho q1 q2 hg1 hg2 F
  subst hw1
  go_enter Try.func92, Try.ntmps92
  go_wp2_with fail
  refine H.out.mono ?_
  intro e w' hp
  unfold AsnPost at hp
  cases hf : firstOf xs 3 with
  | none =>
    have R := Lib.hid (show padRead xs = none by unfold padRead; rw [hf])
    rw [hf] at hp
    obtain ⟨rfl, f, s1, s2⟩ := hp
    have P := Lib.hid (bytPost_no (B := B) R.out (F'.out _ f) s1 (Ho.out.fr f (by simp; omega) (by simp; omega)))
    clear f s1 s2 hf
    go_wp2_with fail
    go_ret
    exact P.out
  | some v =>
    obtain ⟨out, rest⟩ := v
    rw [hf] at hp
    obtain ⟨rfl, f, s1, ⟨a3, c3, d1, d2, d3, d4, d5, d6⟩⟩ := hp
    have Hl : Lim rest.length ∧ Lim out.length := by
      obtain ⟨b, k, _, _, _, h3, h4, _⟩ := firstOf_inv hf
      have := hl.out; have := Hlen.out
      unfold Lim; omega
    have c0 := d1.one
    have Hf := Lib.hid f
    have Hs1 := Lib.hid s1
    have D5 := Lib.hid d5
    have D6 := Lib.hid d6
    have D1 := Lib.hid d1
    have K := Lib.hid (Ho.out.fr f (by simp; omega) (by simp; omega))
    have E := Lib.hid (show padRead xs = (match (some (out, rest) : Option (List Int × List Int)) with | some (x :: out, rest) => if x = 0 then some (out, rest) else none | _ => none) by unfold padRead; rw [hf])
    clear f s1 hf d4 d5 d6
    cases out with
    | nil =>
      simp only [List.length_nil] at *
      have P := Lib.hid (bytPost_no (B := B) (r := padRead xs) E.out (F'.out _ Hf.out) (Hs1.out.has Hl.1) K.out)
      clear d1
      go_wp2_with fail
      go_ret
      exact P.out
    | cons x out =>
      obtain ⟨b, o, rfl, hbB, hc⟩ := D5.out (by simp)
      have e0 : w'.cell? ⟨b, o, none⟩ = some (.int .u8 x) := hc 0 (by simp)
      simp only [List.length_cons] at *
      have i0 : (0 : Int) < ((out.length + 1 : Nat) : Int) := by omega
      have i1 : 0 < out.length + 1 := by omega
      have i2 : (((out.length + 1 : Nat) : Int) == 0) = false := by simp; omega
      clear hc d1
      by_cases hx0 : x = 0
      · have R2 := Lib.hid (show padRead xs = some (out, rest) by rw [E.out]; simp [hx0])
        have t1 : (x != 0) = false := by simp [hx0]
        have sl := sl_fromS (some ⟨b, o, none⟩) (out.length + 1) c3 1 1 rfl (by omega)
        obtain ⟨m6, y6, ⟨a6, c6, g1, _⟩, _⟩ := K.out
        have f1 := g1.frozen 0
        have c1 := g1.one
        have G1 := Lib.hid g1
        clear hx0 g1
        go_wp2_with fail
        go_ret
        have q := (Fr.refl [go] w').set_ (p := ⟨go, 0, none⟩) (.inl (by simp)) (.slice (cutA (some ⟨b, o, none⟩) c3 1) out.length (c3 - 1))
        exact bytPost_yes (B := B) R2.out ((F'.out _ Hf.out).set_ (.inl (by simp)) _) (Hs1.out.fr q (by simp; omega) (by simp; omega)) ⟨_, _, G1.out.set_ 0 _, by omega, by omega, rfl, q.bin (D5.out.cut (k := 1) d2) (by simp; omega), fun y hy => D6.out y (List.mem_cons_of_mem _ hy)⟩
      · have P := Lib.hid (bytPost_no (B := B) (r := padRead xs) (by rw [E.out]; simp [hx0]) (F'.out _ Hf.out) (Hs1.out.has Hl.1) K.out)
        have t1 : (x != 0) = true := by simp [hx0]
        clear hx0
        go_wp2_with fail
        go_ret
        exact P.out
end Go.Proofs.Ytcimjejbakgadaa
