/- The contracts of impl.ReadBytes and impl.Skip. -/
import Derived.Test.YtcimjejbakgadaaDerSkip
namespace Go.Proofs.Ytcimjejbakgadaa
open Go.RowKit
set_option linter.unusedVariables false

/-- The first k bytes and the others, where there are so many. -/
def cutOf (n : Nat) (xs : List Int) (k : Int) : Option (List Int × List Int) := if 0 ≤ k ∧ k ≤ n then some (xs.take k.toNat, xs.drop k.toNat) else none

set_option maxRecDepth 100000 in
set_option maxHeartbeats 1600000 in
theorem iReadBytes_any (a : Option Addr) (n c : Nat) (xs : List Int) (k : Int) (w : World) (hn : xs.length = n) (hb : BIn w w.heap.size a xs) (hx : Byt xs) (hl : n ≤ 4194304000) (hp : 0 < n ∨ k ≠ 0) :
    Calls Try.prog 41 #[.slice a n c, .int .i64 k] w (TwoOf (cutOf n xs k) w) := by
  have S := Lib.hid (str_any a n c xs w hn hb hl)
  have Hn := Lib.hid hn
  have Hl : Lim n := hl
  have Hx := Lib.hid hx
  clear hn hb hl hx
  go_enter Try.func41, Try.ntmps41
  go_wp2_with fail
  refine S.out.mono ?_
  rintro e w1 ⟨a1, c1, rfl, p1, p2, p3, p4, p5, p6⟩
  go_wp2_with fail
  obtain ⟨w2, hw2⟩ : ∃ w2, w2 = (w1.alloc (.cells #[.slice (a1) n c1] 66)).alloc (.cells #[.slice none 0 0] 24) := ⟨_, rfl⟩
  rw [← hw2]
  have q1 : Fr [] w1 w2 := by rw [hw2]; exact ((Fr.refl [] w1).alloc _).alloc _
  have q2 : Blk w2 w1.heap.size 66 #[.slice (a1) n c1] := by rw [hw2]; exact (Blk.new _ _ _).alloc _
  have q3 : Blk w2 (w1.heap.size + 1) 24 #[.slice none 0 0] := by rw [hw2]; exact Blk.new' (by simp) _ _
  have p3' := q1.bin p3 (by simp)
  clear hw2
  have M : Calls Try.prog 80 #[.pointer (some ⟨w1.heap.size, 0, none⟩), .pointer (some ⟨w1.heap.size + 1, 0, none⟩), .int .i64 k] w2 (fun e w3 => ∃ (ok : Bool) (n1 n2 : Nat) (y1 y2 : List Int), e = .returned (.bool ok) ∧ Fr [w1.heap.size, w1.heap.size + 1] w2 w3 ∧ SlB w3 w1.heap.size w1.heap.size 66 n1 y1 ∧ SlB w3 w1.heap.size (w1.heap.size + 1) 24 n2 y2 ∧ n1 ≤ 4194304000 ∧ n2 ≤ 4194304000 ∧
      ∀ w0 e2 w2, TwoPost w0 y2 y1 ok e2 w2 → TwoOf (cutOf n xs k) w0 e2 w2) := by
    have hn := Hn.out
    have hl := Hl.out
    by_cases hk : 0 ≤ k ∧ k ≤ n
    · obtain ⟨j, rfl⟩ := Int.eq_ofNat_of_zero_le hk.1
      obtain ⟨b, o, ha, _, _⟩ := p3 (by omega)
      subst ha
      refine (readBytes_yes w1.heap.size (w1.heap.size + 1) 24 _ ⟨b, o, none⟩ n c1 j w2 q2 q3 (by omega) (by omega) p1 p2).mono ?_
      rintro e w3 ⟨rfl, f, s1, s2⟩
      refine ⟨true, _, _, xs.drop j, xs.take j, rfl, f, ⟨_, _, s1, by omega, by omega, by rw [List.length_drop, hn], f.bin (p3'.cut (by omega)) (by simp), Hx.out.drop _⟩, ⟨_, _, s2, by omega, p2, by rw [List.length_take]; omega, f.bin (p3'.take _) (by simp), Hx.out.take _⟩, by omega, by omega, fun w0 e2 w2 h => ?_⟩
      rw [cutOf, if_pos hk, Int.toNat_natCast]
      exact h
    · refine (readBytes_no w1.heap.size (w1.heap.size + 1) a1 n c1 k w2 q2 (by omega)).mono ?_
      rintro e w3 ⟨rfl, rfl⟩
      refine ⟨false, n, 0, xs, [], rfl, Fr.refl _ _, ⟨_, _, q2, p1, p2, hn, p3', Hx.out⟩, ⟨_, _, q3, Nat.le_refl _, by simp [maxLen], rfl, BIn.nil _ _ _, Byt.nil⟩, hl, by omega, fun w0 e2 w2 h => ?_⟩
      rw [cutOf, if_neg hk]
      exact h.any
  have M' := Lib.hid M
  clear M p3' q2 q3
  refine M'.out.mono ?_
  rintro e w3 ⟨ok, n1, n2, y1, y2, rfl, f, ⟨a3, c3, b1, b2, b3, b4, b5, b6⟩, ⟨a4, c4, d1, d2, d3, d4, d5, d6⟩, l1, l2, fin⟩
  have c0 := b1.one
  have c2 := d1.one
  have Hfin := Lib.hid fin
  have H4 := Lib.hid b4
  have G4 := Lib.hid d4
  have F13 : Fr [] w w3 := ((Fr.of_below p5 []).trans q1 (by simp)).trans f (by have := p5.size; simp; omega)
  clear fin b4 d4
  go_wp2_with fail
  have C1 := Lib.hid (copied_any a4 n2 c4 y2 w3.drew G4.out d5.lt.drew l2)
  have C2 := Lib.hid (fun (W : World) (h : Below w3.drew.heap.size w3.drew W) => copied_any a3 n1 c3 y1 W H4.out (((show BIn w3.drew _ _ _ from b5.lt).below h).lt) l1)
  go_region_held3 (fun w' => w'.cell? ⟨w1.heap.size, 0, none⟩ = some (.slice a3 n1 c3) ∧ w'.cell? ⟨w1.heap.size + 1, 0, none⟩ = some (.slice a4 n2 c4)) (first | exact ⟨c0, c2⟩ | exact ⟨(r5.cell (p := ⟨w1.heap.size, 0, none⟩) b1.lt).trans c0, (r5.cell (p := ⟨w1.heap.size + 1, 0, none⟩) d1.lt).trans c2⟩ | exact ⟨((r5.trans (s5.mono r5.size)).cell (p := ⟨w1.heap.size, 0, none⟩) b1.lt).trans c0, ((r5.trans (s5.mono r5.size)).cell (p := ⟨w1.heap.size + 1, 0, none⟩) d1.lt).trans c2⟩) (first | (go_at_call 75; (with_reducible refine C1.out.mono ?_); rintro e w4 ⟨a5, c5, rfl, r1, r2, r3, r4, r5, r6⟩) | (go_at_call 75; (with_reducible refine (C2.out w4 r5).mono ?_); rintro e w5 ⟨a6, c6, rfl, s1, s2, s3, s4, s5, s6⟩))
  go_wp2
  go_ret3
  have g4 := G4.out
  have h4 := H4.out
  subst g4; subst h4
  exact Hfin.out _ _ _ ⟨a5, c5, a6, c6, rfl, r1, r2, s1, s2, (r3.below s5).more s5.size, s3, ((F13.drew.trans (Fr.of_below r5 []) (by simp)).trans (Fr.of_below s5 []) (by simp)).below (by simp) (Nat.le_refl _)⟩

set_option maxRecDepth 100000 in
set_option maxHeartbeats 1600000 in
theorem iSkip_any (a : Option Addr) (n c : Nat) (xs : List Int) (k : Int) (w : World) (hn : xs.length = n) (hb : BIn w w.heap.size a xs) (hl : n ≤ 4194304000) (hp : 0 < n ∨ k ≠ 0) :
    Calls Try.prog 42 #[.slice a n c, .int .i64 k] w (OneOf (cutOf n xs k) w) := by
  have S := Lib.hid (str_any a n c xs w hn hb hl)
  have Hn := Lib.hid hn
  have Hl : Lim n := hl
  clear hn hb hl
  by_cases hk : 0 ≤ k ∧ k ≤ n
  · obtain ⟨j, rfl⟩ := Int.eq_ofNat_of_zero_le hk.1
    rw [cutOf, if_pos hk, Int.toNat_natCast]
    have hj : j ≤ n := by omega
    have hn0 : 0 < n := by omega
    clear hk hp
    go_enter Try.func42, Try.ntmps42
    go_wp2_with fail
    refine S.out.mono ?_
    rintro e w1 ⟨a1, c1, rfl, p1, p2, p3, p4, p5, p6⟩
    obtain ⟨b, o, rfl, _, _⟩ := p3 (by have := Hn.out; omega)
    go_wp2_with fail
    have q2 : Blk (w1.alloc (.cells #[.slice (some ⟨b, o, none⟩) n c1] 66)) w1.heap.size 66 #[.slice (some ⟨b, o, none⟩) n c1] := Blk.new _ _ _
    have F2 : Fr [] w (w1.alloc (.cells #[.slice (some ⟨b, o, none⟩) n c1] 66)) := (Fr.of_below p5 []).alloc _
    have F1 : Fr [] w1 (w1.alloc (.cells #[.slice (some ⟨b, o, none⟩) n c1] 66)) := (Fr.refl [] w1).alloc _
    generalize w1.alloc (.cells #[.slice (some ⟨b, o, none⟩) n c1] 66) = w2 at *
    refine (skip_yes w1.heap.size ⟨b, o, none⟩ n c1 j w2 q2 hj p1 p2).mono ?_
    rintro e w3 ⟨rfl, hw3⟩
    have s1 : Blk w3 w1.heap.size 66 #[.slice (cutA (some ⟨b, o, none⟩) c1 j) (n - j) (c1 - j)] := by rw [hw3]; exact q2.set_ 0 _
    have F3 : Fr [] w w3 := by rw [hw3]; exact F2.set_ (p := ⟨w1.heap.size, 0, none⟩) (.inr p5.size) _
    have F4 : Fr [w1.heap.size] w1 w3 := by rw [hw3]; exact (F1.mono (by simp)).set_ (p := ⟨w1.heap.size, 0, none⟩) (.inl (by simp)) _
    have z : BIn w3 w3.heap.size (cutA (some ⟨b, o, none⟩) c1 j) (xs.drop j) := (F4.bin (p3.cut (by have := Hn.out; omega)) (by simp)).lt
    clear hw3
    have c0 := s1.one
    go_wp2_with fail
    refine (copied_any (cutA (some ⟨b, o, none⟩) c1 j) (n - j) (c1 - j) (xs.drop j) w3 (by rw [List.length_drop, Hn.out]) z (by have := Hl.out; omega)).mono ?_
    rintro e w4 ⟨a5, c5, rfl, r1, r2, r3, r4, r5, r6⟩
    go_wp2
    go_ret2
    have hlen : (xs.drop j).length = n - j := by rw [List.length_drop, Hn.out]
    rw [← hlen] at r1 ⊢
    exact ⟨a5, c5, rfl, r1, r2, r3, (F3.trans (Fr.of_below r5 []) (by simp)).below (by simp) (Nat.le_refl _)⟩
  · rw [cutOf, if_neg hk]
    have hk' : k < 0 ∨ (n : Int) < k := by omega
    clear hk hp
    go_enter Try.func42, Try.ntmps42
    go_wp2_with fail
    refine S.out.mono ?_
    rintro e w1 ⟨a1, c1, rfl, p1, p2, p3, p4, p5, p6⟩
    go_wp2_with fail
    have q2 : Blk (w1.alloc (.cells #[.slice a1 n c1] 66)) w1.heap.size 66 #[.slice a1 n c1] := Blk.new _ _ _
    have F2 : Fr [] w (w1.alloc (.cells #[.slice a1 n c1] 66)) := (Fr.of_below p5 []).alloc _
    have F1 : Fr [] w1 (w1.alloc (.cells #[.slice a1 n c1] 66)) := (Fr.refl [] w1).alloc _
    generalize w1.alloc (.cells #[.slice a1 n c1] 66) = w2 at *
    refine (skip_no w1.heap.size a1 n c1 k w2 q2 hk').mono ?_
    rintro e w3 ⟨rfl, rfl⟩
    have c0 := q2.one
    clear hk'
    go_wp2_with fail
    refine (copied_any a1 n c1 xs w2 Hn.out (F1.bin p3 (by simp)).lt Hl.out).mono ?_
    rintro e w4 ⟨a5, c5, rfl, r1, r2, r3, r4, r5, r6⟩
    go_wp2
    go_ret2
    exact ⟨_, rfl, (F2.trans (Fr.of_below r5 []) (by simp)).below (by simp) (Nat.le_refl _)⟩
end Go.Proofs.Ytcimjejbakgadaa
