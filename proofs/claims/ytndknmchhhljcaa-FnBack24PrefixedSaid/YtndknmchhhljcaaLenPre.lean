/- The contracts of (*String).readLengthPrefixed, of its exports, and of the thin package's functions round them. -/
import Derived.Test.YtndknmchhhljcaaImpAsn
namespace Go.Proofs.Ytndknmchhhljcaa
open Go.RowKit
set_option linter.unusedVariables false

/-- Behind their length in m bytes: so many bytes, and what stands behind them. -/
def prefOf (xs : List Int) (m : Nat) : Option (List Int × List Int) :=
  if xs.length < m ∨ (xs.length : Int) - m < num (xs.take m) then none else some ((xs.drop m).take (num (xs.take m)).toNat, xs.drop (m + (num (xs.take m)).toNat))

/-- The two ends of a reading of two strings, as r tells them. -/
def TwoS (B g go : Nat) (r : Option (List Int × List Int)) (w : World) (e : Ending) (w' : World) : Prop :=
  match r with
  | some (out, rest) => AsnYes B g go out rest w e w'
  | none => AsnNo B g go w e w'

theorem twoS_key {B g go : Nat} {r : Option (List Int × List Int)} {w w' : World} {e : Ending} (h : TwoS B g go r w e w') (hl : ∀ out rest, r = some (out, rest) → out.length ≤ 4194304000 ∧ rest.length ≤ 4194304000) :
    ∃ (ok : Bool) (n1 n2 : Nat) (y1 y2 : List Int), e = .returned (.bool ok) ∧ Fr [g, go] w w' ∧ SlB w' B g 82 n1 y1 ∧ SlB w' B go 82 n2 y2 ∧ n1 ≤ 4194304000 ∧ n2 ≤ 4194304000 ∧
      (∀ w0 e2 w2, TwoPost w0 y2 y1 ok e2 w2 → TwoOf r w0 e2 w2) := by
  cases r with
  | none =>
    obtain ⟨rfl, f, ⟨n1, y1, s1, l1⟩, ⟨n2, y2, s2, l2⟩⟩ := h
    exact ⟨false, n1, n2, y1, y2, rfl, f, s1, s2, l1.out, l2.out, fun w0 e2 w2 h => h.any⟩
  | some v =>
    obtain ⟨out, rest⟩ := v
    obtain ⟨rfl, f, s1, s2⟩ := h
    obtain ⟨h1, h2⟩ := hl out rest rfl
    exact ⟨true, _, _, rest, out, rfl, f, s1, s2, h2, h1, fun w0 e2 w2 h => h⟩
theorem prefOf_len {xs : List Int} {m : Nat} {out rest : List Int} (h : prefOf xs m = some (out, rest)) (hl : xs.length ≤ 4194304000) : out.length ≤ 4194304000 ∧ rest.length ≤ 4194304000 := by
  unfold prefOf at h
  split at h
  · cases h
  · injection h with h; injection h with h1 h2; subst h1; subst h2
    simp only [List.length_take, List.length_drop]
    omega

theorem shl_or {r x : Int} (h0 : 0 ≤ r) (h1 : r < 16777216) (h2 : 0 ≤ x) (h3 : x < 256) : bits .or .u32 (r * 256 % 4294967296) x = r * 256 + x := u32_step h0 h1 h2 h3

set_option maxRecDepth 100000 in
set_option maxHeartbeats 1600000 in
theorem readLP_any (g go m : Nat) (n : Nat) (xs : List Int) (B : Nat) (w : World)
    (hs : SlB w B g 82 n xs) (ho : Has w B go 82) (h1 : g ≠ go) (hB : B ≤ g) (hBo : B ≤ go) (hl : Lim n) (hm0 : 0 < m) (hm4 : m ≤ 4) :
    Calls Try.prog 131 #[.pointer (some ⟨g, 0, none⟩), .int .i64 m, .pointer (some ⟨go, 0, none⟩)] w (TwoS B g go (prefOf xs m) w) := by
  obtain ⟨a, c, hg, hc, hmx, hn, hb, hx⟩ := id hs
  have Hs := Lib.hid hs
  have Ho := Lib.hid ho
  have Hx := Lib.hid hx
  have q := nil_eql 22 5 Try.underlying22
  have Hl : (n : Int) ≤ 4194304000 := by have := hl.out; omega
  by_cases hlt : n < m
  · have E := Lib.hid (show prefOf xs m = none by unfold prefOf; rw [if_pos (by omega)])
    have R := Lib.hid (read_no g a n c (m : Int) w hg (.inr (by omega)))
    clear hs ho hx hg hb hn hlt
    go_enter Try.func131, Try.ntmps131
    go_wp2_with fail
    refine R.out.mono ?_
    rintro e w1 ⟨rfl, rfl⟩
    go_wp2
    go_ret
    rw [E.out]
    exact ⟨rfl, Fr.refl _ _, Hs.out.has hl, Ho.out⟩
  · obtain ⟨b, o, rfl, hbB, hcell⟩ := hb (by omega)
    have R := Lib.hid (read_yes g (some ⟨b, o, none⟩) n c m w hg (by omega) hc hmx)
    have Hc := Lib.hid (show ∀ i, i < n → (w.setCell ⟨g, 0, none⟩ (.slice (cutA (some ⟨b, o, none⟩) c m) (n - m) (c - m))).cell? ⟨b, o + i, none⟩ = some (.int .u8 (xs.getD i 0)) from fun i hi => by
      rw [World.cell?_setCell_other _ _ _ _ (by intro e; injection e; omega)]; exact hcell i (by omega))
    have Hn := Lib.hid hn
    have Hlt := Lib.hid hlt
    have F1 := Lib.hid (show Fr [g] w (w.setCell ⟨g, 0, none⟩ (.slice (cutA (some ⟨b, o, none⟩) c m) (n - m) (c - m))) from (Fr.refl _ _).set_ (.inl (by simp)) _)
    have G1 := Lib.hid (show Blk (w.setCell ⟨g, 0, none⟩ (.slice (cutA (some ⟨b, o, none⟩) c m) (n - m) (c - m))) g 82 #[.slice (cutA (some ⟨b, o, none⟩) c m) (n - m) (c - m)] from hg.set_ 0 _)
    have Hb := Lib.hid hb
    have Hcm : n ≤ c := hc
    clear hs ho hx hg hb hn hlt hcell
    go_enter Try.func131, Try.ntmps131
    go_wp2_with fail
    refine R.out.mono ?_
    rintro e w1 ⟨rfl, hw1⟩
    rw [← hw1] at Hc F1 G1
    clear hw1
    go_wp2_with fail
    go_loop [8, 19] (fun r i => ∃ j : Nat, j ≤ m ∧ i = .int .i64 j ∧ r = .int .u32 (num (xs.take j))) (fun _ i => m - (intOf i).toNat)
    case atStart => exact ⟨0, Nat.zero_le _, rfl, rfl⟩
    case round =>
      obtain ⟨j, hj, rfl, rfl⟩ := hrel
      by_cases hlt : j < m
      · have hjn : j < n := by have := Hlt.out; omega
        have hl : j < xs.length := by have := Hn.out; omega
        have ej := Hc.out j hjn
        obtain ⟨g1, g2⟩ := Hx.out.getD j
        have s0 := num_small (xs.take j) 3 (Hx.out.take j) (by simp; omega)
        have S := Lib.hid (num_take_succ hl)
        have U := Lib.hid (u32_step s0.1 (by simpa using s0.2) g1 g2)
        clear s0
        generalize xs.getD j 0 = x at *
        generalize num (xs.take j) = r at *
        go_wp2
        go_round
        case rel => exact ⟨j + 1, by omega, by go_num, by rw [U.out, S.out]⟩
        case measure => simp [intOf]; omega
      · have : j = m := by omega
        subst this
        have s0 := num_small (xs.take j) 4 (Hx.out.take j) (by simp; omega)
        obtain ⟨s1, s2⟩ := s0
        have s3 : num (xs.take j) ≤ 4294967295 := by have : (256 : Int) ^ 4 = 4294967296 := rfl; omega
        clear s2
        have hl2 : j ≤ n := by have := Hlt.out; omega
        have Z : BIn w1 w1.heap.size (cutA (some ⟨b, o, none⟩) c j) (xs.drop j) := (F1.out.bin (Hb.out.cut (c := c) (k := j) (by have := Hn.out; omega)) (by simp; omega)).lt
        by_cases hbig : (n : Int) - j < num (xs.take j)
        · have E := Lib.hid (show prefOf xs j = none by unfold prefOf; rw [if_pos (.inr (by have := Hn.out; omega))])
          have R2 := Lib.hid (read_no g (cutA (some ⟨b, o, none⟩) c j) (n - j) (c - j) (num (xs.take j)) w1 G1.out (.inr (by omega)))
          generalize num (xs.take j) = L at *
          clear hbig Z
          go_wp2_with fail
          refine R2.out.mono ?_
          rintro e w2 ⟨rfl, rfl⟩
          go_wp2
          go_ret
          rw [E.out]
          have hlen : (xs.drop j).length = n - j := by rw [List.length_drop, Hn.out]
          exact ⟨rfl, F1.out.mono (by simp), (show SlB w1 B g 82 (n - j) (xs.drop j) from ⟨_, _, G1.out, by omega, by omega, hlen, F1.out.bin (Hb.out.cut (by have := Hn.out; omega)) (by simp; omega), Hx.out.drop _⟩).has (by have := hl.out; unfold Lim; omega), Ho.out.fr F1.out (by simp; omega) (by simp; omega)⟩
        · obtain ⟨L, hL⟩ := Int.eq_ofNat_of_zero_le s1
          rw [hL] at hbig s3 s1 ⊢
          have E := Lib.hid (show prefOf xs j = some ((xs.drop j).take L, xs.drop (j + L)) by unfold prefOf; rw [if_neg (by rw [hL]; have := Hn.out; omega), hL]; rfl)
          have hLn : L ≤ n - j := by omega
          obtain ⟨m2, ys, ⟨a2, c2, o1, o2, o3, o4, o5, o6⟩, o7⟩ := Ho.out.fr F1.out (by simp; omega) (by simp; omega)
          have hA : ∃ ad, cutA (some ⟨b, o, none⟩) c j = some ad := by unfold cutA; split <;> exact ⟨_, rfl⟩
          obtain ⟨ad, had⟩ := hA
          have G1' := G1.out
          have HA := Lib.hid had
          rw [had] at G1'
          have R2 := Lib.hid (read_yes g (some ad) (n - j) (c - j) L w1 G1' hLn (by omega) (by omega))
          have c2' : (w1.setCell ⟨g, 0, none⟩ (.slice (cutA (some ad) (c - j) L) (n - j - L) (c - j - L))).cell? ⟨go, 0, none⟩ = some (.slice a2 m2 c2) := (o1.far (p := ⟨g, 0, none⟩) (by simp; omega) _).one
          have f2' := (o1.far (p := ⟨g, 0, none⟩) (by simp; omega) (.slice (cutA (some ad) (c - j) L) (n - j - L) (c - j - L))).frozen 0
          have F2 := Lib.hid ((Fr.refl [g, go] w1).set_ (p := ⟨g, 0, none⟩) (.inl (by simp)) (.slice (cutA (some ad) (c - j) L) (n - j - L) (c - j - L)))
          have G2 := Lib.hid (G1'.set_ 0 (.slice (cutA (some ad) (c - j) L) (n - j - L) (c - j - L)))
          have O2 := Lib.hid (o1.far (p := ⟨g, 0, none⟩) (by simp; omega) (.slice (cutA (some ad) (c - j) L) (n - j - L) (c - j - L)))
          clear hL hbig Z o1 o5 G1' had
          go_wp2_with fail
          refine R2.out.mono ?_
          rintro e w2 ⟨rfl, hw2⟩
          rw [← hw2] at c2' f2' F2 G2 O2
          clear hw2
          go_wp2
          go_ret
          rw [E.out]
          have F3 : Fr [g, go] w1 (w2.setCell ⟨go, 0, none⟩ (.slice (some ad) L (c - j))) := F2.out.set_ (.inl (by simp)) _
          have l1 : ((xs.drop j).take L).length = L := by rw [List.length_take, List.length_drop, Hn.out]; omega
          have l2 : (xs.drop (j + L)).length = n - j - L := by rw [List.length_drop, Hn.out]; omega
          have b1 : BIn w1 B (some ad) (xs.drop j) := by rw [← HA.out]; exact F1.out.bin (Hb.out.cut (by have := Hn.out; omega)) (by simp; omega)
          refine ⟨rfl, (F1.out.mono (S' := [g, go]) (by simp)).trans F3 (by simp), ?_, ?_⟩
          · rw [l2]
            refine ⟨_, _, (G2.out).far (p := ⟨go, 0, none⟩) h1 _, by omega, by omega, l2, ?_, Hx.out.drop _⟩
            rw [← List.drop_drop]
            exact F3.bin (b1.cut (by rw [List.length_drop, Hn.out]; omega)) (by simp; omega)
          · rw [l1]
            exact ⟨_, _, (O2.out).set_ 0 _, by omega, by omega, l1, F3.bin (b1.take _) (by simp; omega), (Hx.out.drop _).take _⟩

-- TAIL

set_option maxHeartbeats 800000 in
theorem read8P_any (g go : Nat) (n : Nat) (xs : List Int) (B : Nat) (w : World)
    (hs : SlB w B g 82 n xs) (ho : Has w B go 82) (h1 : g ≠ go) (hB : B ≤ g) (hBo : B ≤ go) (hl : Lim n) :
    Calls Try.prog 107 #[.pointer (some ⟨g, 0, none⟩), .pointer (some ⟨go, 0, none⟩)] w (TwoS B g go (prefOf xs 1) w) := by
  have H := Lib.hid (readLP_any g go 1 n xs B w hs ho h1 hB hBo hl (by omega) (by omega))
  have hlen := hs.len
  have hl2 := hl.out
  have Hp := Lib.hid (fun out rest h => @prefOf_len xs 1 out rest h (by omega))
  clear hs ho hlen hl2
  generalize prefOf xs 1 = r at *
  go_enter Try.func107, Try.ntmps107
  go_wp2_with fail
  refine H.out.mono ?_
  intro e w1 hq
  have hq' := Lib.hid hq
  obtain ⟨ok, n1, n2, y1, y2, rfl, _⟩ := twoS_key hq Hp.out
  clear hq
  go_wp2
  go_ret
  exact hq'.out

set_option maxHeartbeats 800000 in
theorem read16P_any (g go : Nat) (n : Nat) (xs : List Int) (B : Nat) (w : World)
    (hs : SlB w B g 82 n xs) (ho : Has w B go 82) (h1 : g ≠ go) (hB : B ≤ g) (hBo : B ≤ go) (hl : Lim n) :
    Calls Try.prog 101 #[.pointer (some ⟨g, 0, none⟩), .pointer (some ⟨go, 0, none⟩)] w (TwoS B g go (prefOf xs 2) w) := by
  have H := Lib.hid (readLP_any g go 2 n xs B w hs ho h1 hB hBo hl (by omega) (by omega))
  have hlen := hs.len
  have hl2 := hl.out
  have Hp := Lib.hid (fun out rest h => @prefOf_len xs 2 out rest h (by omega))
  clear hs ho hlen hl2
  generalize prefOf xs 2 = r at *
  go_enter Try.func101, Try.ntmps101
  go_wp2_with fail
  refine H.out.mono ?_
  intro e w1 hq
  have hq' := Lib.hid hq
  obtain ⟨ok, n1, n2, y1, y2, rfl, _⟩ := twoS_key hq Hp.out
  clear hq
  go_wp2
  go_ret
  exact hq'.out

set_option maxHeartbeats 800000 in
theorem read24P_any (g go : Nat) (n : Nat) (xs : List Int) (B : Nat) (w : World)
    (hs : SlB w B g 82 n xs) (ho : Has w B go 82) (h1 : g ≠ go) (hB : B ≤ g) (hBo : B ≤ go) (hl : Lim n) :
    Calls Try.prog 104 #[.pointer (some ⟨g, 0, none⟩), .pointer (some ⟨go, 0, none⟩)] w (TwoS B g go (prefOf xs 3) w) := by
  have H := Lib.hid (readLP_any g go 3 n xs B w hs ho h1 hB hBo hl (by omega) (by omega))
  have hlen := hs.len
  have hl2 := hl.out
  have Hp := Lib.hid (fun out rest h => @prefOf_len xs 3 out rest h (by omega))
  clear hs ho hlen hl2
  generalize prefOf xs 3 = r at *
  go_enter Try.func104, Try.ntmps104
  go_wp2_with fail
  refine H.out.mono ?_
  intro e w1 hq
  have hq' := Lib.hid hq
  obtain ⟨ok, n1, n2, y1, y2, rfl, _⟩ := twoS_key hq Hp.out
  clear hq
  go_wp2
  go_ret
  exact hq'.out
end Go.Proofs.Ytndknmchhhljcaa
