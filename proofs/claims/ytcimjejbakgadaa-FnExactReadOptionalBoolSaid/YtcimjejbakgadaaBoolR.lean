/- The contracts of ReadASN1Boolean and ReadOptionalASN1Boolean, whole, and of the reference's BoolOf. -/
import Derived.Test.YtcimjejbakgadaaReadYes
import Derived.Test.YtcimjejbakgadaaDerOpt
namespace Go.Proofs.Ytcimjejbakgadaa
open Go.RowKit
set_option linter.unusedVariables false

def boolOf (c : List Int) : Option Bool :=
  match c with
  | [x] => if x = 0 then some false else if x = 255 then some true else none
  | _ => none
def boolRead (xs : List Int) : Option (Bool × List Int) := (firstOf xs 1).bind fun p => (boolOf p.1).map fun v => (v, p.2)
def optBool (xs : List Int) (t : Int) : Option (Bool × List Int) := (firstOf xs t).bind fun p => (boolRead p.1).map fun v => (v.1, p.2)

theorem boolOf_some {c : List Int} {v : Bool} (h : boolOf c = some v) : c = [bByte v] := by
  match c, h with
  | [x], h =>
    simp only [boolOf] at h
    split at h
    · next hx => subst hx; cases h; rfl
    · split at h
      · next hx => subst hx; cases h; rfl
      · cases h

set_option maxHeartbeats 800000 in
theorem boolOf_any (a : Option Addr) (n c : Nat) (xs : List Int) (B : Nat) (w : World) (hn : xs.length = n) (hb : BIn w B a xs) :
    Calls Try.prog 68 #[.slice a n c] w fun e w' => e = .returned (.tuple #[.bool ((boolOf xs).getD false), .bool (boolOf xs).isSome]) ∧ w = w' := by
  match xs, hn with
  | [], hn =>
    simp at hn; subst hn
    go_enter Try.func68, Try.ntmps68
    go_wp2
    go_ret2
    exact ⟨rfl, rfl⟩
  | [x], hn =>
    simp at hn; subst hn
    obtain ⟨b, o, rfl, _, hc⟩ := hb (by simp)
    have e0 : w.cell? ⟨b, o, none⟩ = some (.int .u8 x) := hc 0 (by simp)
    clear hc hb
    by_cases h0 : x = 0
    · subst h0
      go_enter Try.func68, Try.ntmps68
      go_wp2
      go_ret2
      exact ⟨rfl, rfl⟩
    · by_cases h1 : x = 255
      · subst h1
        go_enter Try.func68, Try.ntmps68
        go_wp2
        go_ret2
        exact ⟨rfl, rfl⟩
      · have Z := Lib.hid (show boolOf [x] = none by simp only [boolOf]; rw [if_neg h0, if_neg h1])
        have x0 : (x != 0) = true := by simp [h0]
        have x1 : (x != 255) = true := by simp [h1]
        have x2 : (x == 0) = false := by simp [h0]
        have x3 : (x == 255) = false := by simp [h1]
        go_enter Try.func68, Try.ntmps68
        go_wp2
        go_ret2
        rw [Z.out]
        exact ⟨rfl, rfl⟩
  | x :: y :: r, hn =>
    have i1 : ((n : Int) != 1) = true := by simp at hn; simp; omega
    have i2 : ((n : Int) == 1) = false := by simp at hn; simp; omega
    have Z := Lib.hid (show boolOf (x :: y :: r) = none from rfl)
    clear hb hn
    go_enter Try.func68, Try.ntmps68
    go_wp2
    go_ret2
    rw [Z.out]
    exact ⟨rfl, rfl⟩

set_option maxRecDepth 100000 in
set_option maxHeartbeats 1600000 in
theorem readBool_no (g go : Nat) (n : Nat) (xs : List Int) (z : Bool) (B : Nat) (w : World)
    (hs : SlB w B g 66 n xs) (ho : Blk w go 4 #[.bool z]) (h1 : g ≠ go) (hB : B ≤ g) (hBo : B ≤ go) (hl : Lim n) (hf : boolRead xs = none) :
    Calls Try.prog 109 #[.pointer (some ⟨g, 0, none⟩), .pointer (some ⟨go, 0, none⟩)] w fun e w' => e = .returned (.bool false) ∧ Fr [g, go] w w' ∧ Has w' B g 66 ∧ Blk w' go 4 #[.bool z] := by
  have hg1 : g < w.heap.size := by obtain ⟨a, c, k, _⟩ := hs; exact k.lt
  have hg2 : go < w.heap.size := ho.lt
  obtain ⟨w1, hw1⟩ : ∃ w1, w1 = w.alloc (.cells #[.slice none 0 0] 66) := ⟨_, rfl⟩
  have q1 : Fr [] w w1 := by rw [hw1]; exact (Fr.refl _ w).alloc _
  have q2 : Has w1 B w.heap.size 66 := ⟨0, [], ⟨none, 0, by rw [hw1]; exact Blk.new _ _ _, Nat.le_refl _, by simp [maxLen], rfl, BIn.nil _ _ _, Byt.nil⟩, by unfold Lim; omega⟩
  have H := Lib.hid (readASN1t_any g w.heap.size n xs 1 B w1 (hs.fr q1 (by simp) (by simp)) q2 (by omega) hB (by omega) hl)
  have Ho := Lib.hid (q1.blk ho (by simp))
  have F : ∀ w', Fr [g, w.heap.size] w1 w' → Fr [g, go] w w' := fun w' f => (q1.mono (S' := [g, go]) (by simp)).trans f (by simp)
  have F' := Lib.hid F
  cases hr : firstOf xs 1 with
  | none =>
    have Hr := Lib.hid hr
    clear hs ho q1 q2 F hf hr
    go_enter Try.func109, Try.ntmps109
    go_wp2_with fail
    rw [← hw1]
    refine H.out.mono ?_
    intro e w' hp
    unfold AsnPost at hp
    rw [Hr.out] at hp
    obtain ⟨rfl, f, s1, s2⟩ := hp
    have k := Lib.hid (f.blk Ho.out (by simp; omega))
    have Hs1 := Lib.hid s1
    have HF := Lib.hid f
    clear s1 s2 f hw1
    go_wp2
    go_ret
    exact ⟨rfl, F'.out _ HF.out, Hs1.out, k.out⟩
  | some v =>
    obtain ⟨out, rest⟩ := v
    have hbo : boolOf out = none := by
      unfold boolRead at hf
      rw [hr] at hf
      simpa using hf
    have hrl : rest.length ≤ n := by
      obtain ⟨a, c, _, _, _, hlen, _⟩ := hs
      obtain ⟨b, k, _, _, _, _, h4, _⟩ := firstOf_inv hr
      omega
    have Hr := Lib.hid hr
    clear hs ho q1 q2 F hf hr
    match out, hbo with
    | [x], hbo =>
      have x0 : (x == 0) = false := by
        simp only [boolOf] at hbo
        split at hbo
        · cases hbo
        · next h => simpa using h
      have x1 : (x == 255) = false := by
        simp only [boolOf] at hbo
        split at hbo
        · cases hbo
        · split at hbo
          · cases hbo
          · next h => simpa using h
      go_enter Try.func109, Try.ntmps109
      go_wp2_with fail
      rw [← hw1]
      refine H.out.mono ?_
      intro e w' hp
      unfold AsnPost at hp
      rw [Hr.out] at hp
      obtain ⟨rfl, f, s1, ⟨a3, c3, d1, d2, d3, d4, d5, d6⟩⟩ := hp
      obtain ⟨b, o, rfl, hbB, hc⟩ := d5 (by simp)
      have e0 : w'.cell? ⟨b, o, none⟩ = some (.int .u8 x) := hc 0 (by simp)
      rw [show [x].length = 1 from rfl] at d1 d2 d4
      have c0 := d1.one
      have HF := Lib.hid f
      have Hs1 := Lib.hid s1
      have K := Lib.hid (f.blk Ho.out (by simp; omega))
      clear f s1 d4 d5 d6 hw1 hc d1
      go_wp2
      go_ret
      exact ⟨rfl, F'.out _ HF.out, ⟨_, _, Hs1.out, by unfold Lim at *; omega⟩, K.out⟩
    | [], hbo =>
      go_enter Try.func109, Try.ntmps109
      go_wp2_with fail
      rw [← hw1]
      refine H.out.mono ?_
      intro e w' hp
      unfold AsnPost at hp
      rw [Hr.out] at hp
      obtain ⟨rfl, f, s1, ⟨a3, c3, d1, d2, d3, d4, d5, d6⟩⟩ := hp
      rw [show ([] : List Int).length = 0 from rfl] at d1 d2 d4
      have c0 := d1.one
      have HF := Lib.hid f
      have Hs1 := Lib.hid s1
      have K := Lib.hid (f.blk Ho.out (by simp; omega))
      clear f s1 d4 d5 d6 hw1 d1
      go_wp2
      go_ret
      exact ⟨rfl, F'.out _ HF.out, ⟨_, _, Hs1.out, by unfold Lim at *; omega⟩, K.out⟩
    | x :: y :: r, hbo =>
      obtain ⟨m, hm⟩ : ∃ m, (x :: y :: r).length = m := ⟨_, rfl⟩
      have i1 : ((m : Int) != 1) = true := by simp at hm; simp; omega
      have i2 : ((m : Int) == 1) = false := by simp at hm; simp; omega
      have Hm := Lib.hid hm
      clear hm
      go_enter Try.func109, Try.ntmps109
      go_wp2_with fail
      rw [← hw1]
      refine H.out.mono ?_
      intro e w' hp
      unfold AsnPost at hp
      rw [Hr.out] at hp
      obtain ⟨rfl, f, s1, ⟨a3, c3, d1, d2, d3, d4, d5, d6⟩⟩ := hp
      rw [Hm.out] at d1 d2
      have c0 := d1.one
      have HF := Lib.hid f
      have Hs1 := Lib.hid s1
      have K := Lib.hid (f.blk Ho.out (by simp; omega))
      clear f s1 d4 d5 d6 hw1 d1
      go_wp2
      go_ret
      exact ⟨rfl, F'.out _ HF.out, ⟨_, _, Hs1.out, by unfold Lim at *; omega⟩, K.out⟩

/-- Both ends. -/
theorem readBool_any (g go : Nat) (n : Nat) (xs : List Int) (z : Bool) (B : Nat) (w : World)
    (hs : SlB w B g 66 n xs) (ho : Blk w go 4 #[.bool z]) (h1 : g ≠ go) (hB : B ≤ g) (hBo : B ≤ go) (hl : Lim n) :
    Calls Try.prog 109 #[.pointer (some ⟨g, 0, none⟩), .pointer (some ⟨go, 0, none⟩)] w fun e w' => ∃ (ok v : Bool), e = .returned (.bool ok) ∧ Fr [g, go] w w' ∧ Blk w' go 4 #[.bool v] ∧ (boolRead xs).isSome = ok ∧ ∀ v' rest, boolRead xs = some (v', rest) → v = v' := by
  cases hf : boolRead xs with
  | none =>
    refine (readBool_no g go n xs z B w hs ho h1 hB hBo hl hf).mono ?_
    rintro e w' ⟨rfl, f, _, k⟩
    exact ⟨false, z, rfl, f, k, rfl, fun _ _ h => by cases h⟩
  | some p =>
    obtain ⟨v, rest⟩ := p
    have hf2 : firstOf xs 1 = some ([bByte v], rest) := by
      unfold boolRead at hf
      cases h : firstOf xs 1 with
      | none => rw [h] at hf; cases hf
      | some q =>
        obtain ⟨out, r2⟩ := q
        rw [h] at hf
        cases h2 : boolOf out with
        | none => simp [h2] at hf
        | some u =>
          simp [h2] at hf
          obtain ⟨rfl, rfl⟩ := hf
          rw [boolOf_some h2]
    refine (readBool_yes g go n xs v z rest B w hs ho h1 hB hBo hl hf2).mono ?_
    rintro e w' ⟨rfl, f, _, k⟩
    exact ⟨true, v, rfl, f, k, rfl, fun _ _ h => by cases h; rfl⟩
end Go.Proofs.Ytcimjejbakgadaa
