/- The contracts of ReadASN1Int64WithTag, readASN1Int64, ReadASN1Int64. -/
import Derived.Test.YtcimjejbakgadaaIntC
import Derived.Test.YtcimjejbakgadaaDerAsn
namespace Go.Proofs.Ytcimjejbakgadaa
open Go.RowKit
set_option linter.unusedVariables false

/-- The integer of a tag that bytes begin with, and what stands behind it. -/
def intRead (xs : List Int) (tag : Int) : Option (Int × List Int) :=
  match firstOf xs tag with
  | some (out, rest) => if isInteger out = true ∧ out.length ≤ 8 then some (sgn out, rest) else none
  | none => none

def IntPost (B g go : Nat) (r : Option (Int × List Int)) (w : World) (e : Ending) (w' : World) : Prop :=
  match r with
  | some (v, rest) => e = .returned (.bool true) ∧ Fr [g, go] w w' ∧ SlB w' B g 66 rest.length rest ∧ Blk w' go 2 #[.int .i64 v]
  | none => e = .returned (.bool false) ∧ Fr [g, go] w w' ∧ Has w' B g 66 ∧ Blk w' go 2 #[.int .i64 0]

theorem intPost_yes {B g go : Nat} {r : Option (Int × List Int)} {v : Int} {rest : List Int} {w w' : World} (h : r = some (v, rest)) (f : Fr [g, go] w w') (s : SlB w' B g 66 rest.length rest) (k : Blk w' go 2 #[.int .i64 v]) : IntPost B g go r w (.returned (.bool true)) w' := by
  subst h; exact ⟨rfl, f, s, k⟩
theorem intPost_no {B g go : Nat} {r : Option (Int × List Int)} {w w' : World} (h : r = none) (f : Fr [g, go] w w') (s : Has w' B g 66) (k : Blk w' go 2 #[.int .i64 0]) : IntPost B g go r w (.returned (.bool false)) w' := by
  subst h; exact ⟨rfl, f, s, k⟩

set_option maxRecDepth 100000 in
set_option maxHeartbeats 1600000 in
theorem readIntT_any (g go : Nat) (n : Nat) (xs : List Int) (tag : Int) (B : Nat) (w : World)
    (hs : SlB w B g 66 n xs) (ho : Blk w go 2 #[.int .i64 0]) (h1 : g ≠ go) (hB : B ≤ g) (hBo : B ≤ go) (hl : Lim n) :
    Calls Try.prog 96 #[.pointer (some ⟨g, 0, none⟩), .pointer (some ⟨go, 0, none⟩), .int .u8 tag] w (IntPost B g go (intRead xs tag) w) := by
  have hg1 : g < w.heap.size := by obtain ⟨a, c, k, _⟩ := hs; exact k.lt
  have hg2 : go < w.heap.size := ho.lt
  obtain ⟨w1, hw1⟩ : ∃ w1, w1 = w.alloc (.cells #[.slice none 0 0] 66) := ⟨_, rfl⟩
  have q1 : Fr [] w w1 := by rw [hw1]; exact (Fr.refl _ w).alloc _
  have q2 : Has w1 B w.heap.size 66 := ⟨0, [], ⟨none, 0, by rw [hw1]; exact Blk.new _ _ _, Nat.le_refl _, by simp [maxLen], rfl, BIn.nil _ _ _, Byt.nil⟩, by unfold Lim; omega⟩
  have H := Lib.hid (readASN1t_any g w.heap.size n xs tag B w1 (hs.fr q1 (by simp) (by simp)) q2 (by omega) hB (by omega) hl)
  have Ho := Lib.hid (q1.blk ho (by simp))
  have Hlen := Lib.hid hs.len
  have F : ∀ w', Fr [g, w.heap.size] w1 w' → Fr [g, go] w w' := fun w' f => (q1.mono (S' := [g, go]) (by simp)).trans f (by simp)
  have F' := Lib.hid F
  have hne : ¬ go = w.heap.size := by omega
  have hne2 : ¬ w.heap.size = go := by omega
  clear hs ho q1 q2 hg1 hg2 F
  subst hw1
  go_enter Try.func96, Try.ntmps96
  go_wp2_with fail
  refine H.out.mono ?_
  intro e w' hp
  unfold AsnPost at hp
  cases hf : firstOf xs tag with
  | none =>
    have R := Lib.hid (show intRead xs tag = none by unfold intRead; rw [hf])
    rw [hf] at hp
    obtain ⟨rfl, f, s1, s2⟩ := hp
    have P := Lib.hid (intPost_no R.out (F'.out _ f) s1 (f.blk Ho.out (by simp; omega)))
    clear f s1 s2 hf
    go_wp2_with fail
    go_ret
    exact P.out
  | some v =>
    obtain ⟨out, rest⟩ := v
    rw [hf] at hp
    obtain ⟨rfl, f, s1, ⟨a3, c3, d1, d2, d3, d4, d5, d6⟩⟩ := hp
    have R := Lib.hid (show intRead xs tag = if isInteger out = true ∧ out.length ≤ 8 then some (sgn out, rest) else none by unfold intRead; rw [hf])
    have Hl : Lim rest.length := by
      obtain ⟨b, k, _, _, _, h3, h4, _⟩ := firstOf_inv hf
      have := hl.out; have := Hlen.out
      unfold Lim; omega
    have c0 := d1.one
    have Hf := Lib.hid f
    have Hs1 := Lib.hid s1
    have D5 := Lib.hid d5
    have D6 := Lib.hid d6
    have K := Lib.hid (f.blk Ho.out (by simp; omega))
    clear f s1 hf d4 d5 d6
    go_wp2_with fail
    refine (check_any a3 out.length c3 out B w' rfl D5.out D6.out).mono ?_
    rintro e w2 ⟨rfl, rfl⟩
    cases hi : isInteger out with
    | false =>
      have P := Lib.hid (intPost_no (B := B) (r := intRead xs tag) (by rw [R.out, if_neg (by simp [hi])]) (F'.out _ Hf.out) (Hs1.out.has Hl) K.out)
      clear hi
      go_wp2_with fail
      go_ret
      exact P.out
    | true =>
      by_cases h8 : out.length ≤ 8
      · have h0 : 0 < out.length := by cases out with | nil => simp [isInteger] at hi | cons => simp
        have R2 := Lib.hid (show intRead xs tag = some (sgn out, rest) by rw [R.out, if_pos ⟨hi, h8⟩])
        have Y := Lib.hid (asn1Signed_yes go a3 out.length c3 out B w' K.out hBo rfl h0 h8 D5.out D6.out)
        clear hi
        go_wp2_with fail
        refine Y.out.mono ?_
        rintro e w3 ⟨rfl, y1, y2⟩
        go_wp2_with fail
        go_ret
        exact intPost_yes R2.out ((F'.out _ Hf.out).trans y1 (by simp)) (Hs1.out.fr y1 (by simp; omega) (by simp; omega)) y2
      · have P := Lib.hid (intPost_no (B := B) (r := intRead xs tag) (by rw [R.out, if_neg (by simp [h8])]) (F'.out _ Hf.out) (Hs1.out.has Hl) K.out)
        have Y := Lib.hid (asn1Signed_no go a3 out.length c3 w' (by omega))
        clear hi
        go_wp2_with fail
        refine Y.out.mono ?_
        rintro e w3 ⟨rfl, rfl⟩
        go_wp2_with fail
        go_ret
        exact P.out
set_option maxRecDepth 100000 in
set_option maxHeartbeats 1600000 in
theorem readInt_any (g go : Nat) (n : Nat) (xs : List Int) (B : Nat) (w : World)
    (hs : SlB w B g 66 n xs) (ho : Blk w go 2 #[.int .i64 0]) (h1 : g ≠ go) (hB : B ≤ g) (hBo : B ≤ go) (hl : Lim n) :
    Calls Try.prog 108 #[.pointer (some ⟨g, 0, none⟩), .pointer (some ⟨go, 0, none⟩)] w (IntPost B g go (intRead xs 2) w) := by
  have hg1 : g < w.heap.size := by obtain ⟨a, c, k, _⟩ := hs; exact k.lt
  have hg2 : go < w.heap.size := ho.lt
  obtain ⟨w1, hw1⟩ : ∃ w1, w1 = w.alloc (.cells #[.slice none 0 0] 66) := ⟨_, rfl⟩
  have q1 : Fr [] w w1 := by rw [hw1]; exact (Fr.refl _ w).alloc _
  have q2 : Has w1 B w.heap.size 66 := ⟨0, [], ⟨none, 0, by rw [hw1]; exact Blk.new _ _ _, Nat.le_refl _, by simp [maxLen], rfl, BIn.nil _ _ _, Byt.nil⟩, by unfold Lim; omega⟩
  have H := Lib.hid (readASN1t_any g w.heap.size n xs 2 B w1 (hs.fr q1 (by simp) (by simp)) q2 (by omega) hB (by omega) hl)
  have Ho := Lib.hid (q1.blk ho (by simp))
  have Hlen := Lib.hid hs.len
  have F : ∀ w', Fr [g, w.heap.size] w1 w' → Fr [g, go] w w' := fun w' f => (q1.mono (S' := [g, go]) (by simp)).trans f (by simp)
  have F' := Lib.hid F
  have hne : ¬ go = w.heap.size := by omega
  have hne2 : ¬ w.heap.size = go := by omega
  clear hs ho q1 q2 hg1 hg2 F
  subst hw1
  go_enter Try.func108, Try.ntmps108
  go_wp2_with fail
  refine H.out.mono ?_
  intro e w' hp
  unfold AsnPost at hp
  cases hf : firstOf xs 2 with
  | none =>
    have R := Lib.hid (show intRead xs 2 = none by unfold intRead; rw [hf])
    rw [hf] at hp
    obtain ⟨rfl, f, s1, s2⟩ := hp
    have P := Lib.hid (intPost_no R.out (F'.out _ f) s1 (f.blk Ho.out (by simp; omega)))
    clear f s1 s2 hf
    go_wp2_with fail
    go_ret
    exact P.out
  | some v =>
    obtain ⟨out, rest⟩ := v
    rw [hf] at hp
    obtain ⟨rfl, f, s1, ⟨a3, c3, d1, d2, d3, d4, d5, d6⟩⟩ := hp
    have R := Lib.hid (show intRead xs 2 = if isInteger out = true ∧ out.length ≤ 8 then some (sgn out, rest) else none by unfold intRead; rw [hf])
    have Hl : Lim rest.length := by
      obtain ⟨b, k, _, _, _, h3, h4, _⟩ := firstOf_inv hf
      have := hl.out; have := Hlen.out
      unfold Lim; omega
    have c0 := d1.one
    have Hf := Lib.hid f
    have Hs1 := Lib.hid s1
    have D5 := Lib.hid d5
    have D6 := Lib.hid d6
    have K := Lib.hid (f.blk Ho.out (by simp; omega))
    clear f s1 hf d4 d5 d6
    go_wp2_with fail
    refine (check_any a3 out.length c3 out B w' rfl D5.out D6.out).mono ?_
    rintro e w2 ⟨rfl, rfl⟩
    cases hi : isInteger out with
    | false =>
      have P := Lib.hid (intPost_no (B := B) (r := intRead xs 2) (by rw [R.out, if_neg (by simp [hi])]) (F'.out _ Hf.out) (Hs1.out.has Hl) K.out)
      clear hi
      go_wp2_with fail
      go_ret
      exact P.out
    | true =>
      by_cases h8 : out.length ≤ 8
      · have h0 : 0 < out.length := by cases out with | nil => simp [isInteger] at hi | cons => simp
        have R2 := Lib.hid (show intRead xs 2 = some (sgn out, rest) by rw [R.out, if_pos ⟨hi, h8⟩])
        have Y := Lib.hid (asn1Signed_yes go a3 out.length c3 out B w' K.out hBo rfl h0 h8 D5.out D6.out)
        clear hi
        go_wp2_with fail
        refine Y.out.mono ?_
        rintro e w3 ⟨rfl, y1, y2⟩
        go_wp2_with fail
        go_ret
        exact intPost_yes R2.out ((F'.out _ Hf.out).trans y1 (by simp)) (Hs1.out.fr y1 (by simp; omega) (by simp; omega)) y2
      · have P := Lib.hid (intPost_no (B := B) (r := intRead xs 2) (by rw [R.out, if_neg (by simp [h8])]) (F'.out _ Hf.out) (Hs1.out.has Hl) K.out)
        have Y := Lib.hid (asn1Signed_no go a3 out.length c3 w' (by omega))
        clear hi
        go_wp2_with fail
        refine Y.out.mono ?_
        rintro e w3 ⟨rfl, rfl⟩
        go_wp2_with fail
        go_ret
        exact P.out
set_option maxRecDepth 100000 in
set_option maxHeartbeats 800000 in
theorem readInt64_any (g go : Nat) (n : Nat) (xs : List Int) (B : Nat) (w : World)
    (hs : SlB w B g 66 n xs) (ho : Blk w go 2 #[.int .i64 0]) (h1 : g ≠ go) (hB : B ≤ g) (hBo : B ≤ go) (hl : Lim n) :
    Calls Try.prog 98 #[.pointer (some ⟨g, 0, none⟩), .pointer (some ⟨go, 0, none⟩)] w (IntPost B g go (intRead xs 2) w) := by
  have hg1 : g < w.heap.size := by obtain ⟨a, c, k, _⟩ := hs; exact k.lt
  have hg2 : go < w.heap.size := ho.lt
  obtain ⟨w1, hw1⟩ : ∃ w1, w1 = w.alloc (.cells #[.int .i64 0] 2) := ⟨_, rfl⟩
  have q1 : Fr [] w w1 := by rw [hw1]; exact (Fr.refl _ w).alloc _
  have q2 : Blk w1 w.heap.size 2 #[.int .i64 0] := by rw [hw1]; exact Blk.new _ _ _
  have H := Lib.hid (readInt_any g w.heap.size n xs B w1 (hs.fr q1 (by simp) (by simp)) q2 (by omega) hB (by omega) hl)
  have Ho := Lib.hid (q1.blk ho (by simp))
  have F : ∀ w', Fr [g, w.heap.size] w1 w' → Fr [g, go] w w' := fun w' f => (q1.mono (S' := [g, go]) (by simp)).trans f (by simp)
  have F' := Lib.hid F
  have hne : ¬ go = w.heap.size := by omega
  have hne2 : ¬ w.heap.size = go := by omega
  clear hs ho q1 q2 hg1 hg2 F
  subst hw1
  go_enter Try.func98, Try.ntmps98
  go_wp2_with fail
  refine H.out.mono ?_
  intro e w' hp
  cases hf : intRead xs 2 with
  | none =>
    have Hff := Lib.hid hf
    rw [hf] at hp
    clear hf
    obtain ⟨rfl, f, s1, s2⟩ := hp
    have P := Lib.hid (intPost_no (B := B) (r := intRead xs 2) Hff.out (F'.out _ f) s1 (f.blk Ho.out (by simp; omega)))
    clear f s1 s2
    go_wp2_with fail
    go_ret
    exact P.out
  | some v =>
    obtain ⟨out, rest⟩ := v
    have Hff := Lib.hid hf
    rw [hf] at hp
    clear hf
    obtain ⟨rfl, f, s1, s2⟩ := hp
    have c0 := s2.one
    have K := f.blk Ho.out (by simp; omega)
    have f0 := K.frozen 0
    have c1 := K.one
    have K' := Lib.hid K
    have Hf := Lib.hid f
    have Hs1 := Lib.hid s1
    clear f s1 s2 K
    go_wp2_with fail
    go_ret
    have q := (Fr.refl [go] w').set_ (p := ⟨go, 0, none⟩) (.inl (by simp)) (.int .i64 out)
    exact intPost_yes (B := B) Hff.out ((F'.out _ Hf.out).set_ (.inl (by simp)) _) (Hs1.out.fr q (by simp; omega) (by simp; omega)) (K'.out.set_ 0 _)

end Go.Proofs.Ytcimjejbakgadaa
