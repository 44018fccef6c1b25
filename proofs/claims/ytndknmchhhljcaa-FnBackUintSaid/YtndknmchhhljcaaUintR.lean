/- The contracts of readASN1Uint64, ReadASN1Uint64. -/
import Derived.Test.YtndknmchhhljcaaUintC
import Derived.Test.YtndknmchhhljcaaDerAsn
namespace Go.Proofs.Ytndknmchhhljcaa
open Go.RowKit
set_option linter.unusedVariables false

/-- The INTEGER from 0 to 2^64 - 1 that bytes begin with, and what stands behind it. -/
def uintRead (xs : List Int) : Option (Int × List Int) :=
  match firstOf xs 2 with
  | some (out, rest) => if isInteger out = true ∧ fitsU out = true then some (num out, rest) else none
  | none => none

def UintPost (B g go : Nat) (r : Option (Int × List Int)) (w : World) (e : Ending) (w' : World) : Prop :=
  match r with
  | some (v, rest) => e = .returned (.bool true) ∧ Fr [g, go] w w' ∧ SlB w' B g 82 rest.length rest ∧ Blk w' go 29 #[.int .u64 v]
  | none => e = .returned (.bool false) ∧ Fr [g, go] w w' ∧ Has w' B g 82 ∧ Blk w' go 29 #[.int .u64 0]

theorem uintPost_yes {B g go : Nat} {r : Option (Int × List Int)} {v : Int} {rest : List Int} {w w' : World} (h : r = some (v, rest)) (f : Fr [g, go] w w') (s : SlB w' B g 82 rest.length rest) (k : Blk w' go 29 #[.int .u64 v]) : UintPost B g go r w (.returned (.bool true)) w' := by
  subst h; exact ⟨rfl, f, s, k⟩
theorem uintPost_no {B g go : Nat} {r : Option (Int × List Int)} {w w' : World} (h : r = none) (f : Fr [g, go] w w') (s : Has w' B g 82) (k : Blk w' go 29 #[.int .u64 0]) : UintPost B g go r w (.returned (.bool false)) w' := by
  subst h; exact ⟨rfl, f, s, k⟩

set_option maxRecDepth 100000 in
set_option maxHeartbeats 1600000 in
theorem readUint_any (g go : Nat) (n : Nat) (xs : List Int) (B : Nat) (w : World)
    (hs : SlB w B g 82 n xs) (ho : Blk w go 29 #[.int .u64 0]) (h1 : g ≠ go) (hB : B ≤ g) (hBo : B ≤ go) (hl : Lim n) :
    Calls Try.prog 140 #[.pointer (some ⟨g, 0, none⟩), .pointer (some ⟨go, 0, none⟩)] w (UintPost B g go (uintRead xs) w) := by
  have hg1 : g < w.heap.size := by obtain ⟨a, c, k, _⟩ := hs; exact k.lt
  have hg2 : go < w.heap.size := ho.lt
  obtain ⟨w1, hw1⟩ : ∃ w1, w1 = w.alloc (.cells #[.slice none 0 0] 82) := ⟨_, rfl⟩
  have q1 : Fr [] w w1 := by rw [hw1]; exact (Fr.refl _ w).alloc _
  have q2 : Has w1 B w.heap.size 82 := ⟨0, [], ⟨none, 0, by rw [hw1]; exact Blk.new _ _ _, Nat.le_refl _, by simp [maxLen], rfl, BIn.nil _ _ _, Byt.nil⟩, by unfold Lim; omega⟩
  have H := Lib.hid (readASN1t_any g w.heap.size n xs 2 B w1 (hs.fr q1 (by simp) (by simp)) q2 (by omega) hB (by omega) hl)
  have Ho := Lib.hid (q1.blk ho (by simp))
  have Hlen := Lib.hid hs.len
  have F : ∀ w', Fr [g, w.heap.size] w1 w' → Fr [g, go] w w' := fun w' f => (q1.mono (S' := [g, go]) (by simp)).trans f (by simp)
  have F' := Lib.hid F
  have hne : ¬ go = w.heap.size := by omega
  have hne2 : ¬ w.heap.size = go := by omega
  clear hs ho q1 q2 hg1 hg2 F
  subst hw1
  go_enter Try.func140, Try.ntmps140
  go_wp2_with fail
  refine H.out.mono ?_
  intro e w' hp
  unfold AsnPost at hp
  cases hf : firstOf xs 2 with
  | none =>
    have R := Lib.hid (show uintRead xs = none by unfold uintRead; rw [hf])
    rw [hf] at hp
    obtain ⟨rfl, f, s1, s2⟩ := hp
    have P := Lib.hid (uintPost_no R.out (F'.out _ f) s1 (f.blk Ho.out (by simp; omega)))
    clear f s1 s2 hf
    go_wp2_with fail
    go_ret
    exact P.out
  | some v =>
    obtain ⟨out, rest⟩ := v
    rw [hf] at hp
    obtain ⟨rfl, f, s1, ⟨a3, c3, d1, d2, d3, d4, d5, d6⟩⟩ := hp
    have R := Lib.hid (show uintRead xs = if isInteger out = true ∧ fitsU out = true then some (num out, rest) else none by unfold uintRead; rw [hf])
    have Hl : Lim rest.length := by
      obtain ⟨b, k, _, _, _, h3, h4, _⟩ := firstOf_inv hf
      have := hl.out; have := Hlen.out
      unfold Lim; omega
    have c0 := d1.one
    have Hf := Lib.hid f
    have Hs1 := Lib.hid s1
    have D5 := Lib.hid d5
    have D6 := Lib.hid d6
    have K := Lib.hid (f.blk Ho.out (by simp; omega))
    clear f s1 hf d4 d5 d6
    go_wp2_with fail
    refine (check_any a3 out.length c3 out B w' rfl D5.out D6.out).mono ?_
    rintro e w2 ⟨rfl, rfl⟩
    cases hi : isInteger out with
    | false =>
      have P := Lib.hid (uintPost_no (B := B) (r := uintRead xs) (by rw [R.out, if_neg (by simp [hi])]) (F'.out _ Hf.out) (Hs1.out.has Hl) K.out)
      clear hi
      go_wp2_with fail
      go_ret
      exact P.out
    | true =>
      have h0 : 0 < out.length := by cases out with | nil => simp [isInteger] at hi | cons => simp
      have Y := Lib.hid (asn1Unsigned_any go a3 out.length c3 out B w' K.out hBo rfl h0 D5.out D6.out)
      cases h8 : fitsU out with
      | true =>
        have R2 := Lib.hid (show uintRead xs = some (num out, rest) by rw [R.out, if_pos ⟨hi, h8⟩])
        rw [h8] at Y
        clear hi h8
        go_wp2_with fail
        refine Y.out.mono ?_
        rintro e w3 ⟨rfl, y1, y2, _⟩
        have y2' := Lib.hid (y2 rfl)
        clear y2
        go_wp2_with fail
        go_ret
        exact uintPost_yes R2.out ((F'.out _ Hf.out).trans y1 (by simp)) (Hs1.out.fr y1 (by simp; omega) (by simp; omega)) y2'.out
      | false =>
        have P := Lib.hid (uintPost_no (B := B) (r := uintRead xs) (by rw [R.out, if_neg (by simp [h8])]) (F'.out _ Hf.out) (Hs1.out.has Hl) K.out)
        rw [h8] at Y
        clear hi h8
        go_wp2_with fail
        refine Y.out.mono ?_
        rintro e w3 ⟨rfl, y1, _, y2⟩
        have y2' := y2 rfl
        subst y2'
        clear y1 y2
        go_wp2_with fail
        go_ret
        exact P.out

set_option maxRecDepth 100000 in
set_option maxHeartbeats 800000 in
theorem readUint64_any (g go : Nat) (n : Nat) (xs : List Int) (B : Nat) (w : World)
    (hs : SlB w B g 82 n xs) (ho : Blk w go 29 #[.int .u64 0]) (h1 : g ≠ go) (hB : B ≤ g) (hBo : B ≤ go) (hl : Lim n) :
    Calls Try.prog 119 #[.pointer (some ⟨g, 0, none⟩), .pointer (some ⟨go, 0, none⟩)] w (UintPost B g go (uintRead xs) w) := by
  have hg1 : g < w.heap.size := by obtain ⟨a, c, k, _⟩ := hs; exact k.lt
  have hg2 : go < w.heap.size := ho.lt
  obtain ⟨w1, hw1⟩ : ∃ w1, w1 = w.alloc (.cells #[.int .u64 0] 29) := ⟨_, rfl⟩
  have q1 : Fr [] w w1 := by rw [hw1]; exact (Fr.refl _ w).alloc _
  have q2 : Blk w1 w.heap.size 29 #[.int .u64 0] := by rw [hw1]; exact Blk.new _ _ _
  have H := Lib.hid (readUint_any g w.heap.size n xs B w1 (hs.fr q1 (by simp) (by simp)) q2 (by omega) hB (by omega) hl)
  have Ho := Lib.hid (q1.blk ho (by simp))
  have F : ∀ w', Fr [g, w.heap.size] w1 w' → Fr [g, go] w w' := fun w' f => (q1.mono (S' := [g, go]) (by simp)).trans f (by simp)
  have F' := Lib.hid F
  have hne : ¬ go = w.heap.size := by omega
  have hne2 : ¬ w.heap.size = go := by omega
  clear hs ho q1 q2 hg1 hg2 F
  subst hw1
  go_enter Try.func119, Try.ntmps119
  go_wp2_with fail
  refine H.out.mono ?_
  intro e w' hp
  cases hf : uintRead xs with
  | none =>
    have Hff := Lib.hid hf
    rw [hf] at hp
    clear hf
    obtain ⟨rfl, f, s1, s2⟩ := hp
    have P := Lib.hid (uintPost_no (B := B) (r := uintRead xs) Hff.out (F'.out _ f) s1 (f.blk Ho.out (by simp; omega)))
    clear f s1 s2
    go_wp2_with fail
    go_ret
    exact P.out
  | some v =>
    obtain ⟨out, rest⟩ := v
    have Hff := Lib.hid hf
    rw [hf] at hp
    clear hf
    obtain ⟨rfl, f, s1, s2⟩ := hp
    have c0 := s2.one
    have K := f.blk Ho.out (by simp; omega)
    have f0 := K.frozen 0
    have c1 := K.one
    have K' := Lib.hid K
    have Hf := Lib.hid f
    have Hs1 := Lib.hid s1
    clear f s1 s2 K
    go_wp2_with fail
    go_ret
    have q := (Fr.refl [go] w').set_ (p := ⟨go, 0, none⟩) (.inl (by simp)) (.int .u64 out)
    exact uintPost_yes (B := B) Hff.out ((F'.out _ Hf.out).set_ (.inl (by simp)) _) (Hs1.out.fr q (by simp; omega) (by simp; omega)) (K'.out.set_ 0 _)

end Go.Proofs.Ytndknmchhhljcaa
