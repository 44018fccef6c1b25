/- The contract of impl.ReadAnyElement where there is no element. (Printed by gen_cut.py.) -/
import Derived.Test.YtndknmchhhljcaaImpAny
import Derived.Test.YtndknmchhhljcaaDerElem
namespace Go.Proofs.Ytndknmchhhljcaa
open Go.RowKit
set_option linter.unusedVariables false

theorem anyE_key {B g go gt : Nat} {n : Nat} {xs : List Int} {w w' : World} {e : Ending} (h : DerPost false B g go gt 82 n xs (.slice none 0 0) w e w') (hf : first xs = none) (hn : xs.length = n) (hl : n ≤ 4194304000) :
    ∃ (n1 n2 : Nat) (y1 y2 : List Int) (t : Int), e = .returned (.bool false) ∧ Fr [g, go, gt] w w' ∧ SlB w' B g 82 n1 y1 ∧ SlB w' B go 82 n2 y2 ∧ Blk w' gt 92 #[.int .u8 t] ∧ n1 ≤ 4194304000 ∧ n2 ≤ 4194304000 := by
  rcases h with ⟨_, rfl, f, s1, s2, t, s3⟩ | ⟨t, b, k, h, _⟩
  · exact ⟨n, 0, xs, [], t, rfl, f, s1, ⟨none, 0, s2, Nat.le_refl _, by simp [maxLen], rfl, BIn.nil _ _ _, Byt.nil⟩, s3, hl, by omega⟩
  · rw [hf] at h; cases h

set_option maxRecDepth 100000 in
set_option maxHeartbeats 1600000 in
theorem iReadAnyE_no (a : Option Addr) (n c : Nat) (xs : List Int) (w : World) (hn : xs.length = n) (hb : BIn w w.heap.size a xs) (hx : Byt xs) (hl : n ≤ 4194304000) (hf : first xs = none) :
    Calls Try.prog 64 #[.slice a n c] w (AnyNo w) := by
  have S := Lib.hid (str_any a n c xs w hn hb hl)
  have Hn := Lib.hid hn
  have Hl : Lim n := hl
  have Hx := Lib.hid hx
  have Hf := Lib.hid hf
  clear hn hb hl hx hf
  go_enter Try.func64, Try.ntmps64
  go_wp2_with fail
  refine S.out.mono ?_
  rintro e w1 ⟨a1, c1, rfl, p1, p2, p3, p4, p5, p6⟩
  go_wp2_with fail
  obtain ⟨w2, hw2⟩ : ∃ w2, w2 = ((w1.alloc (.cells #[.slice a1 n c1] 82)).alloc (.cells #[.slice none 0 0] 82)).alloc (.cells #[.int .u8 0] 92) := ⟨_, rfl⟩
  rw [← hw2]
  have q1 : Fr [] w1 w2 := by rw [hw2]; exact (((Fr.refl [] w1).alloc _).alloc _).alloc _
  have q2 : SlB w2 w1.heap.size w1.heap.size 82 n xs := ⟨a1, c1, by rw [hw2]; exact ((Blk.new _ _ _).alloc _).alloc _, p1, p2, Hn.out, q1.bin p3 (by simp), Hx.out⟩
  have q3 : Blk w2 (w1.heap.size + 1) 82 #[.slice none 0 0] := by rw [hw2]; exact (Blk.new' (by simp) _ _).alloc _
  have q4 : Blk w2 (w1.heap.size + 1 + 1) 92 #[.int .u8 0] := by rw [hw2]; exact Blk.new' (by simp) _ _
  clear hw2
  refine (readAnyElem_any w1.heap.size (w1.heap.size + 1) (w1.heap.size + 1 + 1) (.slice none 0 0) n xs 0 w1.heap.size w2 q2 q3 q4 (by omega) (by omega) (by omega) (Nat.le_refl _) (by omega) (by omega) Hl).mono ?_
  intro e w3 hp
  obtain ⟨n1, n2, y1, y2, t, rfl, f, ⟨a3, c3, b1, b2, b3, b4, b5, b6⟩, ⟨a4, c4, d1, d2, d3, d4, d5, d6⟩, k1, l1, l2⟩ := anyE_key hp Hf.out Hn.out Hl.out
  have u0 := b1.one
  have u2 := d1.one
  have u4 := k1.one
  have H4 := Lib.hid b4
  have G4 := Lib.hid d4
  have F13 : Fr [] w w3 := ((Fr.of_below p5 []).trans q1 (by simp)).trans f (by have := p5.size; simp; omega)
  clear hp b4 d4
  go_wp2_with fail
  have C1 := Lib.hid (copied_any a4 n2 c4 y2 w3.drew G4.out d5.lt.drew l2)
  have C2 := Lib.hid (fun (W : World) (h : Below w3.drew.heap.size w3.drew W) => copied_any a3 n1 c3 y1 W H4.out (((show BIn w3.drew _ _ _ from b5.lt).below h).lt) l1)
  go_region_held3 (fun w' => w'.cell? ⟨w1.heap.size, 0, none⟩ = some (.slice a3 n1 c3) ∧ w'.cell? ⟨w1.heap.size + 1, 0, none⟩ = some (.slice a4 n2 c4) ∧ w'.cell? ⟨w1.heap.size + 1 + 1, 0, none⟩ = some (.int .u8 t)) (first | exact ⟨u0, u2, u4⟩ | exact ⟨(r5.cell (p := ⟨w1.heap.size, 0, none⟩) b1.lt).trans u0, (r5.cell (p := ⟨w1.heap.size + 1, 0, none⟩) d1.lt).trans u2, (r5.cell (p := ⟨w1.heap.size + 1 + 1, 0, none⟩) k1.lt).trans u4⟩ | exact ⟨((r5.trans (s5.mono r5.size)).cell (p := ⟨w1.heap.size, 0, none⟩) b1.lt).trans u0, ((r5.trans (s5.mono r5.size)).cell (p := ⟨w1.heap.size + 1, 0, none⟩) d1.lt).trans u2, ((r5.trans (s5.mono r5.size)).cell (p := ⟨w1.heap.size + 1 + 1, 0, none⟩) k1.lt).trans u4⟩) (first | (go_at_call 78; (with_reducible refine C1.out.mono ?_); rintro e w4 ⟨a5, c5, rfl, r1, r2, r3, r4, r5, r6⟩) | (go_at_call 78; (with_reducible refine (C2.out w4 r5).mono ?_); rintro e w5 ⟨a6, c6, rfl, s1, s2, s3, s4, s5, s6⟩))
  go_wp2
  refine bodyPost_ret (results4 rfl _ _ _) rfl ?_
  have g4 := G4.out
  have h4 := H4.out
  subst g4; subst h4
  exact ⟨_, _, _, rfl, ((F13.drew.trans (Fr.of_below r5 []) (by simp)).trans (Fr.of_below s5 []) (by simp)).below (by simp) (Nat.le_refl _)⟩
end Go.Proofs.Ytndknmchhhljcaa
