/- The contracts of ReadOptionalASN1OctetString (where it is whole, and where none is there) and of impl.ReadOptionalOctets. -/
import Derived.Test.YtndknmchhhljcaaImpOpt
namespace Go.Proofs.Ytndknmchhhljcaa
open Go.RowKit
set_option linter.unusedVariables false

theorem sv_empty (a : Option Addr) (c : Nat) (w : World) : Calls Try.prog 139 #[.slice a 0 c] w fun e w' => e = .returned (.bool true) ∧ w = w' := by
  go_enter Try.func139, Try.ntmps139
  go_wp2
  go_ret
  exact ⟨rfl, rfl⟩

set_option maxRecDepth 100000 in
set_option maxHeartbeats 1600000 in
theorem optOct_yes (g go gp : Nat) (n : Nat) (xs out o rest : List Int) (t : Int) (B : Nat) (w : World)
    (hs : SlB w B g 82 n xs) (ho : Blk w go 22 #[.slice none 0 0]) (hp : Blk w gp 4 #[.bool false]) (h1 : g ≠ go) (h2 : g ≠ gp) (h3 : go ≠ gp) (hB : B ≤ g) (hBo : B ≤ go) (hBp : B ≤ gp) (hl : Lim n)
    (hi : isTag xs t = true) (hf : firstOf xs t = some (out, rest)) (hf2 : firstOf out 4 = some (o, [])) :
    Calls Try.prog 117 #[.pointer (some ⟨g, 0, none⟩), .pointer (some ⟨go, 0, none⟩), .pointer (some ⟨gp, 0, none⟩), .int .u8 t] w fun e w' => e = .returned (.bool true) ∧ Fr [g, go, gp] w w' ∧ SlB w' B g 82 rest.length rest ∧ SlB w' B go 22 o.length o ∧ Blk w' gp 4 #[.bool true] := by
  have hg1 : g < w.heap.size := by obtain ⟨a, c, k, _⟩ := hs; exact k.lt
  have hg2 : go < w.heap.size := ho.lt
  have hg3 : gp < w.heap.size := hp.lt
  obtain ⟨w1, hw1⟩ : ∃ w1, w1 = (w.alloc (.cells #[.bool false] 4)).alloc (.cells #[.slice none 0 0] 82) := ⟨_, rfl⟩
  have q1 : Fr [] w w1 := by rw [hw1]; exact ((Fr.refl _ w).alloc _).alloc _
  have q2 : Has w1 B (w.heap.size + 1) 82 := ⟨0, [], ⟨none, 0, by rw [hw1]; exact Blk.new' (by simp) _ _, Nat.le_refl _, by simp [maxLen], rfl, BIn.nil _ _ _, Byt.nil⟩, by unfold Lim; omega⟩
  have q3 : Blk w1 w.heap.size 4 #[.bool false] := by rw [hw1]; exact (Blk.new _ _ _).alloc _
  have H := Lib.hid (readOpt_any g (w.heap.size + 1) w.heap.size n xs t false B w1 (hs.fr q1 (by simp) (by simp)) q2 q3 (by omega) (by omega) (by omega) hB (by omega) (by omega) hl)
  have Ho := Lib.hid (q1.blk ho (by simp))
  have Hp := Lib.hid (q1.blk hp (by simp))
  have hsz : w1.heap.size = w.heap.size + 2 := by rw [hw1]; simp
  have Q1 := Lib.hid q1
  have Hi := Lib.hid hi
  have Hf := Lib.hid hf
  have Hf2 := Lib.hid hf2
  clear hs ho hp q1 q2 q3 hi hf hf2
  go_enter Try.func117, Try.ntmps117
  go_wp2_with fail
  rw [← hw1]
  refine H.out.mono ?_
  rintro e w2 ⟨ok, n1, n2, y1, y2, rfl, f, s1, s2, s3, l1, l2, _, m2⟩
  obtain ⟨k1, k2⟩ := m2 Hi.out
  rw [Hf.out] at k1
  have k1' : ok = true := k1.symm
  subst k1'
  obtain ⟨rfl, rfl⟩ := k2 _ _ Hf.out
  rw [Hi.out] at s3
  have c0 := s3.one
  have kp := f.blk Hp.out (by simp; omega)
  have p0 := kp.one
  have pf := kp.frozen 0
  have Ko := Lib.hid (f.blk Ho.out (by simp; omega))
  have Kp := Lib.hid kp
  have HF := Lib.hid f
  have Hs1 := Lib.hid s1
  have Hs2 := Lib.hid s2
  have C0 := Lib.hid s3
  clear f s1 s2 kp hw1 m2 k1 k2
  go_wp2_with fail
  have f3 : Fr [gp] w2 ((w2.setCell ⟨gp, 0, none⟩ (.bool true)).alloc (.cells #[.slice none 0 0] 82)) := ((Fr.refl [gp] w2).set_ (p := ⟨gp, 0, none⟩) (.inl (by simp)) _).alloc _
  have o3 : Blk ((w2.setCell ⟨gp, 0, none⟩ (.bool true)).alloc (.cells #[.slice none 0 0] 82)) w2.heap.size 82 #[.slice none 0 0] := Blk.new' (by simp) _ _
  have p3 := (Kp.out.set_ 0 (.bool true)).alloc (.cells #[.slice none 0 0] 82)
  have hz2 : w1.heap.size ≤ w2.heap.size := HF.out.size
  generalize (w2.setCell ⟨gp, 0, none⟩ (.bool true)).alloc (.cells #[.slice none 0 0] 82) = w3 at *
  have Ko3 := Lib.hid (f3.blk Ko.out (by simp; omega))
  have Hs3 := Lib.hid (Hs1.out.fr f3 (by simp; omega) (by simp; omega))
  have C3 := Lib.hid (f3.blk C0.out (by simp; omega))
  have M := Lib.hid (readASN1t_any (w.heap.size + 1) w2.heap.size n2 y2 4 B w3 (Hs2.out.fr f3 (by simp; omega) (by simp; omega)) ⟨0, [], ⟨none, 0, o3, Nat.le_refl _, by simp [maxLen], rfl, BIn.nil _ _ _, Byt.nil⟩, by unfold Lim; omega⟩ (by omega) (by omega) (by omega) l2)
  have HF3 := Lib.hid f3
  have P3 := Lib.hid p3
  clear f3 o3 p3 pf p0
  refine M.out.mono ?_
  intro e w4 hq
  unfold AsnPost at hq
  rw [Hf2.out] at hq
  obtain ⟨rfl, f4, ⟨a5, c5, u1, u2, u3, u4, u5, u6⟩, ⟨a6, c6, v1, v2, v3, v4, v5, v6⟩⟩ := hq
  have x0 := u1.one
  have x1 := v1.one
  have k4 := f4.blk Ko3.out (by simp; omega)
  have x2 := k4.one
  have x3 := k4.frozen 0
  have K4 := Lib.hid k4
  have x4 := Lib.hid ((f4.blk C3.out (by simp; omega)).one)
  have P4 := Lib.hid (f4.blk P3.out (by simp; omega))
  have HF4 := Lib.hid f4
  have V5 := Lib.hid v5
  have V6 := Lib.hid v6
  have x5 := x4.out
  clear f4 k4 c0 u1 v1 u4 u5 u6 v4 v5 v6
  go_wp2_with fail
  refine (sv_empty a5 c5 w4).mono ?_
  rintro e w5 ⟨rfl, rfl⟩
  go_wp2_with fail
  go_ret
  have f5 : Fr [go] w4 (w4.setCell ⟨go, 0, none⟩ (.slice a6 o.length c6)) := (Fr.refl [go] w4).set_ (p := ⟨go, 0, none⟩) (.inl (by simp)) _
  have A1 : Fr [g, go, gp] w w2 := (Q1.out.mono (S' := [g, go, gp]) (by simp)).trans HF.out (by simp)
  have A2 : Fr [g, go, gp] w w3 := A1.trans HF3.out (by simp)
  have A3 : Fr [g, go, gp] w w4 := A2.trans HF4.out (by simp; omega)
  have A4 : Fr [g, go, gp] w (w4.setCell ⟨go, 0, none⟩ (.slice a6 o.length c6)) := A3.trans f5 (by simp)
  obtain ⟨a9, c9, z1, z2, z3, z4, z5, z6⟩ := (Hs3.out.fr HF4.out (by simp; omega) (by simp; omega)).fr f5 (by simp; omega) (by simp; omega)
  subst z4
  exact ⟨rfl, A4, ⟨a9, c9, z1, z2, z3, rfl, z5, z6⟩, ⟨a6, c6, K4.out.set_ 0 _, v2, v3, rfl, f5.bin V5.out (by simp; omega), V6.out⟩, f5.blk P4.out (by simp; omega)⟩

set_option maxRecDepth 100000 in
set_option maxHeartbeats 1600000 in
theorem optOct_none (g go gp : Nat) (n : Nat) (xs : List Int) (t : Int) (B : Nat) (w : World)
    (hs : SlB w B g 82 n xs) (ho : Blk w go 22 #[.slice none 0 0]) (hp : Blk w gp 4 #[.bool false]) (h1 : g ≠ go) (h2 : g ≠ gp) (h3 : go ≠ gp) (hB : B ≤ g) (hBo : B ≤ go) (hBp : B ≤ gp) (hl : Lim n)
    (hi : isTag xs t = false) :
    Calls Try.prog 117 #[.pointer (some ⟨g, 0, none⟩), .pointer (some ⟨go, 0, none⟩), .pointer (some ⟨gp, 0, none⟩), .int .u8 t] w fun e w' => e = .returned (.bool true) ∧ Fr [g, go, gp] w w' ∧ SlB w' B g 82 xs.length xs ∧ SlB w' B go 22 0 [] ∧ Blk w' gp 4 #[.bool false] := by
  have hg1 : g < w.heap.size := by obtain ⟨a, c, k, _⟩ := hs; exact k.lt
  have hg2 : go < w.heap.size := ho.lt
  have hg3 : gp < w.heap.size := hp.lt
  obtain ⟨w1, hw1⟩ : ∃ w1, w1 = (w.alloc (.cells #[.bool false] 4)).alloc (.cells #[.slice none 0 0] 82) := ⟨_, rfl⟩
  have q1 : Fr [] w w1 := by rw [hw1]; exact ((Fr.refl _ w).alloc _).alloc _
  have q2 : Has w1 B (w.heap.size + 1) 82 := ⟨0, [], ⟨none, 0, by rw [hw1]; exact Blk.new' (by simp) _ _, Nat.le_refl _, by simp [maxLen], rfl, BIn.nil _ _ _, Byt.nil⟩, by unfold Lim; omega⟩
  have q3 : Blk w1 w.heap.size 4 #[.bool false] := by rw [hw1]; exact (Blk.new _ _ _).alloc _
  have H := Lib.hid (readOpt_any g (w.heap.size + 1) w.heap.size n xs t false B w1 (hs.fr q1 (by simp) (by simp)) q2 q3 (by omega) (by omega) (by omega) hB (by omega) (by omega) hl)
  have Ho := Lib.hid (q1.blk ho (by simp))
  have Hp := Lib.hid (q1.blk hp (by simp))
  have Q1 := Lib.hid q1
  have Hi := Lib.hid hi
  clear hs ho hp q1 q2 q3 hi
  go_enter Try.func117, Try.ntmps117
  go_wp2_with fail
  rw [← hw1]
  refine H.out.mono ?_
  rintro e w2 ⟨ok, n1, n2, y1, y2, rfl, f, s1, s2, s3, l1, l2, m1, _⟩
  obtain ⟨rfl, rfl⟩ := m1 Hi.out
  rw [Hi.out] at s3
  have c0 := s3.one
  have kp := f.blk Hp.out (by simp; omega)
  have p0 := kp.one
  have pf := kp.frozen 0
  have ko := f.blk Ho.out (by simp; omega)
  have x2 := ko.one
  have x3 := ko.frozen 0
  have hw2 : World.cell? w2 ⟨w.heap.size, 0, none⟩ = some (.bool false) := c0
  have Ko := Lib.hid ko
  have Kp := Lib.hid kp
  have HF := Lib.hid f
  have Hs1 := Lib.hid s1
  clear f s1 s2 s3 ko kp hw1 m1
  go_wp2_with fail
  go_ret
  have A1 : Fr [g, go, gp] w w2 := (Q1.out.mono (S' := [g, go, gp]) (by simp)).trans HF.out (by simp)
  have f3 : Fr [gp] w2 (w2.setCell ⟨gp, 0, none⟩ (.bool false)) := (Fr.refl [gp] w2).set_ (p := ⟨gp, 0, none⟩) (.inl (by simp)) _
  have f4 : Fr [go] (w2.setCell ⟨gp, 0, none⟩ (.bool false)) ((w2.setCell ⟨gp, 0, none⟩ (.bool false)).setCell ⟨go, 0, none⟩ (.slice none 0 0)) := (Fr.refl [go] _).set_ (p := ⟨go, 0, none⟩) (.inl (by simp)) _
  have k4 := (f3.blk Ko.out (by simp; omega)).set_ 0 (.slice none 0 0)
  obtain ⟨a9, c9, z1, z2, z3, z4, z5, z6⟩ := (Hs1.out.fr f3 (by simp; omega) (by simp; omega)).fr f4 (by simp; omega) (by simp; omega)
  subst z4
  exact ⟨rfl, (A1.trans f3 (by simp)).trans f4 (by simp), ⟨a9, c9, z1, z2, z3, rfl, z5, z6⟩, ⟨none, 0, k4, Nat.le_refl _, by simp [maxLen], rfl, BIn.nil _ _ _, Byt.nil⟩, f4.blk (Kp.out.set_ 0 (.bool false)) (by simp; omega)⟩

set_option maxRecDepth 100000 in
set_option maxHeartbeats 1600000 in
theorem iOptOct_yes (a : Option Addr) (n c : Nat) (xs : List Int) (tag : Int) (w : World) (hn : xs.length = n) (hb : BIn w w.heap.size a xs) (hx : Byt xs) (hl : n ≤ 4194304000) (out o rest : List Int) (hi : isTag xs tag = true) (hf : firstOf xs tag = some (out, rest)) (hf2 : firstOf out 4 = some (o, [])) (h0 : 0 ≤ tag) (h1 : tag ≤ 255) :
    Calls Try.prog 69 #[.slice a n c, .int .i64 tag] w (QPost w o true rest true) := by
  have S := Lib.hid (str_any a n c xs w hn hb hl)
  have Hn := Lib.hid hn
  have Hl : Lim n := hl
  have Hx := Lib.hid hx
  have Hi := Lib.hid hi
  have Hf := Lib.hid hf
  have Hf2 := Lib.hid hf2
  have L1 := Lib.hid (show rest.length ≤ 4194304000 by obtain ⟨b, k, _, _, _, _, h4, _⟩ := firstOf_inv hf; omega)
  have L2 := Lib.hid (show o.length ≤ 4194304000 by
    obtain ⟨b, k, _, hr, _⟩ := firstOf_inv hf2
    obtain ⟨b', k', _, hr', _⟩ := firstOf_inv hf
    rw [hr, List.length_drop, List.length_take, hr', List.length_drop, List.length_take]; omega)
  clear hn hb hl hx hi hf hf2
  go_enter Try.func69, Try.ntmps69
  go_wp2_with fail
  refine S.out.mono ?_
  rintro e w1 ⟨a1, c1, rfl, p1, p2, p3, p4, p5, p6⟩
  go_wp2_with fail
  obtain ⟨w2, hw2⟩ : ∃ w2, w2 = ((w1.alloc (.cells #[.slice a1 n c1] 82)).alloc (.cells #[.slice none 0 0] 22)).alloc (.cells #[.bool false] 4) := ⟨_, rfl⟩
  rw [← hw2]
  have q1 : Fr [] w1 w2 := by rw [hw2]; exact (((Fr.refl [] w1).alloc _).alloc _).alloc _
  have q2 : SlB w2 w1.heap.size w1.heap.size 82 n xs := ⟨a1, c1, by rw [hw2]; exact ((Blk.new _ _ _).alloc _).alloc _, p1, p2, Hn.out, q1.bin p3 (by simp), Hx.out⟩
  have q3 : Blk w2 (w1.heap.size + 1) 22 #[.slice none 0 0] := by rw [hw2]; exact (Blk.new' (by simp) _ _).alloc _
  have q4 : Blk w2 (w1.heap.size + 1 + 1) 4 #[.bool false] := by rw [hw2]; exact Blk.new' (by simp) _ _
  clear hw2
  refine (optOct_yes w1.heap.size (w1.heap.size + 1) (w1.heap.size + 1 + 1) n xs out o rest tag w1.heap.size w2 q2 q3 q4 (by omega) (by omega) (by omega) (Nat.le_refl _) (by omega) (by omega) Hl Hi.out Hf.out Hf2.out).mono ?_
  rintro e w3 ⟨rfl, f, ⟨a3, c3, b1, b2, b3, b4, b5, b6⟩, ⟨a4, c4, d1, d2, d3, d4, d5, d6⟩, k1⟩
  have l1 := L1.out
  have l2 := L2.out
  have u0 := b1.one
  have u2 := d1.one
  have u4 := k1.one
  have F13 : Fr [] w w3 := ((Fr.of_below p5 []).trans q1 (by simp)).trans f (by have := p5.size; simp; omega)
  clear b4 d4
  go_wp2_with fail
  have C1 := Lib.hid (copied_any a4 o.length c4 o w3.drew rfl d5.lt.drew l2)
  have C2 := Lib.hid (fun (W : World) (h : Below w3.drew.heap.size w3.drew W) => copied_any a3 rest.length c3 rest W rfl (((show BIn w3.drew _ _ _ from b5.lt).below h).lt) l1)
  go_region_held3 (fun w' => w'.cell? ⟨w1.heap.size, 0, none⟩ = some (.slice a3 rest.length c3) ∧ w'.cell? ⟨w1.heap.size + 1, 0, none⟩ = some (.slice a4 o.length c4) ∧ w'.cell? ⟨w1.heap.size + 1 + 1, 0, none⟩ = some (.bool true)) (first | exact ⟨u0, u2, u4⟩ | exact ⟨(r5.cell (p := ⟨w1.heap.size, 0, none⟩) b1.lt).trans u0, (r5.cell (p := ⟨w1.heap.size + 1, 0, none⟩) d1.lt).trans u2, (r5.cell (p := ⟨w1.heap.size + 1 + 1, 0, none⟩) k1.lt).trans u4⟩ | exact ⟨((r5.trans (s5.mono r5.size)).cell (p := ⟨w1.heap.size, 0, none⟩) b1.lt).trans u0, ((r5.trans (s5.mono r5.size)).cell (p := ⟨w1.heap.size + 1, 0, none⟩) d1.lt).trans u2, ((r5.trans (s5.mono r5.size)).cell (p := ⟨w1.heap.size + 1 + 1, 0, none⟩) k1.lt).trans u4⟩) (first | (go_at_call 78; (with_reducible refine C1.out.mono ?_); rintro e w4 ⟨a5, c5, rfl, r1, r2, r3, r4, r5, r6⟩) | (go_at_call 78; (with_reducible refine (C2.out w4 r5).mono ?_); rintro e w5 ⟨a6, c6, rfl, s1, s2, s3, s4, s5, s6⟩))
  go_wp2
  refine bodyPost_ret (results4 rfl _ _ _) rfl ?_
  exact ⟨a5, c5, a6, c6, rfl, r1, r2, s1, s2, (r3.below s5).more s5.size, s3, ((F13.drew.trans (Fr.of_below r5 []) (by simp)).trans (Fr.of_below s5 []) (by simp)).below (by simp) (Nat.le_refl _)⟩
set_option maxRecDepth 100000 in
set_option maxHeartbeats 1600000 in
theorem iOptOct_none (a : Option Addr) (n c : Nat) (xs : List Int) (tag : Int) (w : World) (hn : xs.length = n) (hb : BIn w w.heap.size a xs) (hx : Byt xs) (hl : n ≤ 4194304000) (hi : isTag xs tag = false) (h0 : 0 ≤ tag) (h1 : tag ≤ 255) :
    Calls Try.prog 69 #[.slice a n c, .int .i64 tag] w (QPost w ([] : List Int) false xs true) := by
  have S := Lib.hid (str_any a n c xs w hn hb hl)
  have Hn := Lib.hid hn
  have Hl : Lim n := hl
  have Hx := Lib.hid hx
  have Hi := Lib.hid hi
  clear hn hb hl hx hi
  go_enter Try.func69, Try.ntmps69
  go_wp2_with fail
  refine S.out.mono ?_
  rintro e w1 ⟨a1, c1, rfl, p1, p2, p3, p4, p5, p6⟩
  go_wp2_with fail
  obtain ⟨w2, hw2⟩ : ∃ w2, w2 = ((w1.alloc (.cells #[.slice a1 n c1] 82)).alloc (.cells #[.slice none 0 0] 22)).alloc (.cells #[.bool false] 4) := ⟨_, rfl⟩
  rw [← hw2]
  have q1 : Fr [] w1 w2 := by rw [hw2]; exact (((Fr.refl [] w1).alloc _).alloc _).alloc _
  have q2 : SlB w2 w1.heap.size w1.heap.size 82 n xs := ⟨a1, c1, by rw [hw2]; exact ((Blk.new _ _ _).alloc _).alloc _, p1, p2, Hn.out, q1.bin p3 (by simp), Hx.out⟩
  have q3 : Blk w2 (w1.heap.size + 1) 22 #[.slice none 0 0] := by rw [hw2]; exact (Blk.new' (by simp) _ _).alloc _
  have q4 : Blk w2 (w1.heap.size + 1 + 1) 4 #[.bool false] := by rw [hw2]; exact Blk.new' (by simp) _ _
  clear hw2
  refine (optOct_none w1.heap.size (w1.heap.size + 1) (w1.heap.size + 1 + 1) n xs tag w1.heap.size w2 q2 q3 q4 (by omega) (by omega) (by omega) (Nat.le_refl _) (by omega) (by omega) Hl Hi.out).mono ?_
  rintro e w3 ⟨rfl, f, ⟨a3, c3, b1, b2, b3, b4, b5, b6⟩, ⟨a4, c4, d1, d2, d3, d4, d5, d6⟩, k1⟩
  have l1 : xs.length ≤ 4194304000 := by rw [Hn.out]; exact Hl
  have l2 : 0 ≤ 4194304000 := by omega
  have u0 := b1.one
  have u2 := d1.one
  have u4 := k1.one
  have F13 : Fr [] w w3 := ((Fr.of_below p5 []).trans q1 (by simp)).trans f (by have := p5.size; simp; omega)
  clear b4 d4
  go_wp2_with fail
  have C1 := Lib.hid (copied_any a4 0 c4 ([] : List Int) w3.drew rfl d5.lt.drew l2)
  have C2 := Lib.hid (fun (W : World) (h : Below w3.drew.heap.size w3.drew W) => copied_any a3 xs.length c3 xs W rfl (((show BIn w3.drew _ _ _ from b5.lt).below h).lt) l1)
  go_region_held3 (fun w' => w'.cell? ⟨w1.heap.size, 0, none⟩ = some (.slice a3 xs.length c3) ∧ w'.cell? ⟨w1.heap.size + 1, 0, none⟩ = some (.slice a4 0 c4) ∧ w'.cell? ⟨w1.heap.size + 1 + 1, 0, none⟩ = some (.bool false)) (first | exact ⟨u0, u2, u4⟩ | exact ⟨(r5.cell (p := ⟨w1.heap.size, 0, none⟩) b1.lt).trans u0, (r5.cell (p := ⟨w1.heap.size + 1, 0, none⟩) d1.lt).trans u2, (r5.cell (p := ⟨w1.heap.size + 1 + 1, 0, none⟩) k1.lt).trans u4⟩ | exact ⟨((r5.trans (s5.mono r5.size)).cell (p := ⟨w1.heap.size, 0, none⟩) b1.lt).trans u0, ((r5.trans (s5.mono r5.size)).cell (p := ⟨w1.heap.size + 1, 0, none⟩) d1.lt).trans u2, ((r5.trans (s5.mono r5.size)).cell (p := ⟨w1.heap.size + 1 + 1, 0, none⟩) k1.lt).trans u4⟩) (first | (go_at_call 78; (with_reducible refine C1.out.mono ?_); rintro e w4 ⟨a5, c5, rfl, r1, r2, r3, r4, r5, r6⟩) | (go_at_call 78; (with_reducible refine (C2.out w4 r5).mono ?_); rintro e w5 ⟨a6, c6, rfl, s1, s2, s3, s4, s5, s6⟩))
  go_wp2
  refine bodyPost_ret (results4 rfl _ _ _) rfl ?_
  exact ⟨a5, c5, a6, c6, rfl, r1, r2, s1, s2, (r3.below s5).more s5.size, s3, ((F13.drew.trans (Fr.of_below r5 []) (by simp)).trans (Fr.of_below s5 []) (by simp)).below (by simp) (Nat.le_refl _)⟩
