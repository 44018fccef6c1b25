/- The contracts of ReadASN1Enum and ReadASN1Boolean, where there is one, and of the thin package's functions round them. (Printed by gen_yes.py.) -/
import Derived.Test.YtndknmchhhljcaaImpInt
import Derived.Test.YtndknmchhhljcaaClosDer
namespace Go.Proofs.Ytndknmchhhljcaa
open Go.RowKit
set_option linter.unusedVariables false

set_option maxRecDepth 100000 in
set_option maxHeartbeats 1600000 in
theorem readEnum_yes (g go : Nat) (n : Nat) (xs : List Int) (out : List Int) (rest : List Int) (B : Nat) (w : World)
    (hs : SlB w B g 82 n xs) (ho : Blk w go 3 #[.int .i64 0]) (h1 : g ≠ go) (hB : B ≤ g) (hBo : B ≤ go) (hl : Lim n) (hf : firstOf xs 10 = some (out, rest)) (hi : isInteger out = true) (h8 : out.length ≤ 8) :
    Calls Try.prog 118 #[.pointer (some ⟨g, 0, none⟩), .pointer (some ⟨go, 0, none⟩)] w fun e w' => e = .returned (.bool true) ∧ Fr [g, go] w w' ∧ SlB w' B g 82 rest.length rest ∧ Blk w' go 3 #[.int .i64 (sgn out)] := by
  have hg1 : g < w.heap.size := by obtain ⟨a, c, k, _⟩ := hs; exact k.lt
  have hg2 : go < w.heap.size := ho.lt
  obtain ⟨w1, hw1⟩ : ∃ w1, w1 = (w.alloc (.cells #[.slice none 0 0] 82)).alloc (.cells #[.int .i64 0] 2) := ⟨_, rfl⟩
  have q1 : Fr [] w w1 := by rw [hw1]; exact ((Fr.refl _ w).alloc _).alloc _
  have q2 : Has w1 B w.heap.size 82 := ⟨0, [], ⟨none, 0, by rw [hw1]; exact (Blk.new _ _ _).alloc _, Nat.le_refl _, by simp [maxLen], rfl, BIn.nil _ _ _, Byt.nil⟩, by unfold Lim; omega⟩
  have q3 : Blk w1 (w.heap.size + 1) 2 #[.int .i64 0] := by rw [hw1]; exact Blk.new' (by simp) _ _
  have H := Lib.hid (readASN1t_any g w.heap.size n xs 10 B w1 (hs.fr q1 (by simp) (by simp)) q2 (by omega) hB (by omega) hl)
  have Ho := Lib.hid (q1.blk ho (by simp))
  have Q3 := Lib.hid q3
  have F : ∀ w', Fr [g, w.heap.size] w1 w' → Fr [g, go] w w' := fun w' f => (q1.mono (S' := [g, go]) (by simp)).trans f (by simp)
  have F' := Lib.hid F
  have Hi := Lib.hid hi
  have Hf := Lib.hid hf
  have h0 : 0 < out.length := by cases out with | nil => simp [isInteger] at hi | cons => simp
  clear hs ho q1 q2 q3 F hi hf
  go_enter Try.func118, Try.ntmps118
  go_wp2_with fail
  rw [← hw1]
  refine H.out.mono ?_
  intro e w' hp
  unfold AsnPost at hp
  rw [Hf.out] at hp
  obtain ⟨rfl, f, s1, ⟨a3, c3, d1, d2, d3, d4, d5, d6⟩⟩ := hp
  have c0 := d1.one
  have HF := Lib.hid f
  have Hs1 := Lib.hid s1
  have D5 := Lib.hid d5
  have D6 := Lib.hid d6
  have K := Lib.hid (f.blk Ho.out (by simp; omega))
  have I3 := Lib.hid (f.blk Q3.out (by simp; omega))
  have hne1 : ¬ go = w.heap.size + 1 := by omega
  have hne2 : ¬ w.heap.size = w.heap.size + 1 := by omega
  clear f s1 d4 d5 d6 hw1
  go_wp2_with fail
  refine (check_any a3 out.length c3 out B w' rfl D5.out D6.out).mono ?_
  rintro e w2 ⟨rfl, rfl⟩
  rw [Hi.out]
  go_wp2_with fail
  refine (asn1Signed_yes (w.heap.size + 1) a3 out.length c3 out B w' I3.out (by omega) rfl h0 h8 D5.out D6.out).mono ?_
  rintro e w3 ⟨rfl, y1, y2⟩
  have i0 := y2.one
  have k3 := (y1.blk K.out (by simp; omega))
  have g0 := k3.one
  have gf := k3.frozen 0
  have K3 := Lib.hid k3
  have Y1 := Lib.hid y1
  have Y2 := Lib.hid y2
  clear y1 y2 k3 c0 d1
  go_wp2_with fail
  go_ret
  have f3 : Fr [w.heap.size + 1, go] w' (w3.setCell ⟨go, 0, none⟩ (.int .i64 (sgn out))) := (Y1.out.mono (S' := [w.heap.size + 1, go]) (by simp)).set_ (p := ⟨go, 0, none⟩) (.inl (by simp)) _
  exact ⟨rfl, (F'.out _ HF.out).trans f3 (fun i hi => by
    simp at hi
    rcases hi with rfl | rfl
    · exact .inr (by omega)
    · exact .inl (by simp)), Hs1.out.fr f3 (by simp; omega) (by simp; omega), K3.out.set_ 0 _⟩

set_option maxRecDepth 100000 in
set_option maxHeartbeats 1600000 in
theorem readBool_yes (g go : Nat) (n : Nat) (xs : List Int) (v z : Bool) (rest : List Int) (B : Nat) (w : World)
    (hs : SlB w B g 82 n xs) (ho : Blk w go 4 #[.bool z]) (h1 : g ≠ go) (hB : B ≤ g) (hBo : B ≤ go) (hl : Lim n) (hf : firstOf xs 1 = some ([bByte v], rest))  :
    Calls Try.prog 113 #[.pointer (some ⟨g, 0, none⟩), .pointer (some ⟨go, 0, none⟩)] w fun e w' => e = .returned (.bool true) ∧ Fr [g, go] w w' ∧ SlB w' B g 82 rest.length rest ∧ Blk w' go 4 #[.bool v] := by
  have hg1 : g < w.heap.size := by obtain ⟨a, c, k, _⟩ := hs; exact k.lt
  have hg2 : go < w.heap.size := ho.lt
  obtain ⟨w1, hw1⟩ : ∃ w1, w1 = w.alloc (.cells #[.slice none 0 0] 82) := ⟨_, rfl⟩
  have q1 : Fr [] w w1 := by rw [hw1]; exact (Fr.refl _ w).alloc _
  have q2 : Has w1 B w.heap.size 82 := ⟨0, [], ⟨none, 0, by rw [hw1]; exact Blk.new _ _ _, Nat.le_refl _, by simp [maxLen], rfl, BIn.nil _ _ _, Byt.nil⟩, by unfold Lim; omega⟩
  have H := Lib.hid (readASN1t_any g w.heap.size n xs 1 B w1 (hs.fr q1 (by simp) (by simp)) q2 (by omega) hB (by omega) hl)
  have Ho := Lib.hid (q1.blk ho (by simp))
  have F : ∀ w', Fr [g, w.heap.size] w1 w' → Fr [g, go] w w' := fun w' f => (q1.mono (S' := [g, go]) (by simp)).trans f (by simp)
  have F' := Lib.hid F
  have Hf := Lib.hid hf
  clear hs ho q1 q2 F hf
  cases v
  · rw [show bByte false = 0 from rfl] at Hf
    go_enter Try.func113, Try.ntmps113
    go_wp2_with fail
    rw [← hw1]
    refine H.out.mono ?_
    intro e w' hp
    unfold AsnPost at hp
    rw [Hf.out] at hp
    obtain ⟨rfl, f, s1, ⟨a3, c3, d1, d2, d3, d4, d5, d6⟩⟩ := hp
    obtain ⟨b, o, rfl, hbB, hc⟩ := d5 (by simp)
    have e0 : w'.cell? ⟨b, o, none⟩ = some (.int .u8 0) := hc 0 (by simp)
    rw [show [(0 : Int)].length = 1 from rfl] at d1 d2 d4
    have c0 := d1.one
    have HF := Lib.hid f
    have Hs1 := Lib.hid s1
    have k := f.blk Ho.out (by simp; omega)
    have g0 := k.one
    have gf := k.frozen 0
    have K := Lib.hid k
    clear f s1 d4 d5 d6 hw1 k hc d1
    go_wp2_with fail
    go_ret
    have f3 : Fr [go] w' (w'.setCell ⟨go, 0, none⟩ (.bool false)) := (Fr.refl [go] w').set_ (p := ⟨go, 0, none⟩) (.inl (by simp)) _
    exact ⟨rfl, (F'.out _ HF.out).trans f3 (by simp), Hs1.out.fr f3 (by simp; omega) (by simp; omega), K.out.set_ 0 _⟩
  · rw [show bByte true = 255 from rfl] at Hf
    go_enter Try.func113, Try.ntmps113
    go_wp2_with fail
    rw [← hw1]
    refine H.out.mono ?_
    intro e w' hp
    unfold AsnPost at hp
    rw [Hf.out] at hp
    obtain ⟨rfl, f, s1, ⟨a3, c3, d1, d2, d3, d4, d5, d6⟩⟩ := hp
    obtain ⟨b, o, rfl, hbB, hc⟩ := d5 (by simp)
    have e0 : w'.cell? ⟨b, o, none⟩ = some (.int .u8 255) := hc 0 (by simp)
    rw [show [(255 : Int)].length = 1 from rfl] at d1 d2 d4
    have c0 := d1.one
    have HF := Lib.hid f
    have Hs1 := Lib.hid s1
    have k := f.blk Ho.out (by simp; omega)
    have g0 := k.one
    have gf := k.frozen 0
    have K := Lib.hid k
    clear f s1 d4 d5 d6 hw1 k hc d1
    go_wp2_with fail
    go_ret
    have f3 : Fr [go] w' (w'.setCell ⟨go, 0, none⟩ (.bool true)) := (Fr.refl [go] w').set_ (p := ⟨go, 0, none⟩) (.inl (by simp)) _
    exact ⟨rfl, (F'.out _ HF.out).trans f3 (by simp), Hs1.out.fr f3 (by simp; omega) (by simp; omega), K.out.set_ 0 _⟩

set_option maxRecDepth 100000 in
set_option maxHeartbeats 1600000 in
theorem iReadEnum_yes (a : Option Addr) (n c : Nat) (xs : List Int) (out : List Int) (rest : List Int) (w : World) (hn : xs.length = n) (hb : BIn w w.heap.size a xs) (hx : Byt xs) (hl : n ≤ 4194304000) (hf : firstOf xs 10 = some (out, rest)) (hi : isInteger out = true) (h8 : out.length ≤ 8) :
    Calls Try.prog 70 #[.slice a n c] w (NumPost w (.int .i64 (sgn out)) rest.length rest true) := by
  have S := Lib.hid (str_any a n c xs w hn hb hl)
  have Hn := Lib.hid hn
  have Hl : Lim n := hl
  have Hf := Lib.hid hf
  have hr : rest.length ≤ 4194304000 := by obtain ⟨b, k, _, _, _, _, h4, _⟩ := firstOf_inv hf; omega
  clear hn hb hl hf
  go_enter Try.func70, Try.ntmps70
  go_wp2_with fail
  refine S.out.mono ?_
  rintro e w1 ⟨a1, c1, rfl, p1, p2, p3, p4, p5, p6⟩
  go_wp2_with fail
  obtain ⟨w2, hw2⟩ : ∃ w2, w2 = (w1.alloc (.cells #[.slice a1 n c1] 82)).alloc (.cells #[.int .i64 0] 3) := ⟨_, rfl⟩
  rw [← hw2]
  have q1 : Fr [] w1 w2 := by rw [hw2]; exact ((Fr.refl [] w1).alloc _).alloc _
  have q2 : SlB w2 w1.heap.size w1.heap.size 82 n xs := ⟨a1, c1, by rw [hw2]; exact (Blk.new _ _ _).alloc _, p1, p2, Hn.out, q1.bin p3 (by simp), hx⟩
  have q3 : Blk w2 (w1.heap.size + 1) 3 #[.int .i64 0] := by rw [hw2]; exact Blk.new' (by simp) _ _
  clear hw2
  refine (readEnum_yes w1.heap.size (w1.heap.size + 1) n xs out rest w1.heap.size w2 q2 q3 (by omega) (Nat.le_refl _) (by omega) Hl Hf.out hi h8).mono ?_
  rintro e w3 ⟨rfl, f, ⟨a3, c3, b1, b2, b3, b4, b5, b6⟩, d1⟩
  have c0 := b1.one
  have c2 := d1.one
  have F13 : Fr [] w w3 := ((Fr.of_below p5 []).trans q1 (by simp)).trans f (by have := p5.size; simp; omega)
  clear b4
  go_wp2_with fail
  have C := Lib.hid (copied_any a3 rest.length c3 rest w3.drew rfl b5.lt.drew hr)
  go_region_held3 (fun w' => w'.cell? ⟨w1.heap.size, 0, none⟩ = some (.slice a3 rest.length c3) ∧ w'.cell? ⟨w1.heap.size + 1, 0, none⟩ = some (.int .i64 (sgn out))) (first | exact ⟨c0, c2⟩ | exact ⟨(r5.cell (p := ⟨w1.heap.size, 0, none⟩) b1.lt).trans c0, (r5.cell (p := ⟨w1.heap.size + 1, 0, none⟩) d1.lt).trans c2⟩) (first | (go_at_call 78; refine C.out.mono ?_; rintro e w4 ⟨a5, c5, rfl, r1, r2, r3, r4, r5, r6⟩))
  go_wp2
  go_ret3
  exact ⟨a5, c5, rfl, r1, r2, r3, ((F13.drew.trans (Fr.of_below r5 []) (by simp))).below (by simp) (Nat.le_refl _)⟩

set_option maxRecDepth 100000 in
set_option maxHeartbeats 1600000 in
theorem iReadBool_yes (a : Option Addr) (n c : Nat) (xs : List Int) (v : Bool) (rest : List Int) (w : World) (hn : xs.length = n) (hb : BIn w w.heap.size a xs) (hx : Byt xs) (hl : n ≤ 4194304000) (hf : firstOf xs 1 = some ([bByte v], rest))  :
    Calls Try.prog 65 #[.slice a n c] w (NumPost w (.bool v) rest.length rest true) := by
  have S := Lib.hid (str_any a n c xs w hn hb hl)
  have Hn := Lib.hid hn
  have Hl : Lim n := hl
  have Hf := Lib.hid hf
  have hr : rest.length ≤ 4194304000 := by obtain ⟨b, k, _, _, _, _, h4, _⟩ := firstOf_inv hf; omega
  clear hn hb hl hf
  go_enter Try.func65, Try.ntmps65
  go_wp2_with fail
  refine S.out.mono ?_
  rintro e w1 ⟨a1, c1, rfl, p1, p2, p3, p4, p5, p6⟩
  go_wp2_with fail
  obtain ⟨w2, hw2⟩ : ∃ w2, w2 = (w1.alloc (.cells #[.slice a1 n c1] 82)).alloc (.cells #[.bool false] 4) := ⟨_, rfl⟩
  rw [← hw2]
  have q1 : Fr [] w1 w2 := by rw [hw2]; exact ((Fr.refl [] w1).alloc _).alloc _
  have q2 : SlB w2 w1.heap.size w1.heap.size 82 n xs := ⟨a1, c1, by rw [hw2]; exact (Blk.new _ _ _).alloc _, p1, p2, Hn.out, q1.bin p3 (by simp), hx⟩
  have q3 : Blk w2 (w1.heap.size + 1) 4 #[.bool false] := by rw [hw2]; exact Blk.new' (by simp) _ _
  clear hw2
  refine (readBool_yes w1.heap.size (w1.heap.size + 1) n xs v false rest w1.heap.size w2 q2 q3 (by omega) (Nat.le_refl _) (by omega) Hl Hf.out).mono ?_
  rintro e w3 ⟨rfl, f, ⟨a3, c3, b1, b2, b3, b4, b5, b6⟩, d1⟩
  have c0 := b1.one
  have c2 := d1.one
  have F13 : Fr [] w w3 := ((Fr.of_below p5 []).trans q1 (by simp)).trans f (by have := p5.size; simp; omega)
  clear b4
  go_wp2_with fail
  have C := Lib.hid (copied_any a3 rest.length c3 rest w3.drew rfl b5.lt.drew hr)
  go_region_held3 (fun w' => w'.cell? ⟨w1.heap.size, 0, none⟩ = some (.slice a3 rest.length c3) ∧ w'.cell? ⟨w1.heap.size + 1, 0, none⟩ = some (.bool v)) (first | exact ⟨c0, c2⟩ | exact ⟨(r5.cell (p := ⟨w1.heap.size, 0, none⟩) b1.lt).trans c0, (r5.cell (p := ⟨w1.heap.size + 1, 0, none⟩) d1.lt).trans c2⟩) (first | (go_at_call 78; refine C.out.mono ?_; rintro e w4 ⟨a5, c5, rfl, r1, r2, r3, r4, r5, r6⟩))
  go_wp2
  go_ret3
  exact ⟨a5, c5, rfl, r1, r2, r3, ((F13.drew.trans (Fr.of_below r5 []) (by simp))).below (by simp) (Nat.le_refl _)⟩
end Go.Proofs.Ytndknmchhhljcaa
