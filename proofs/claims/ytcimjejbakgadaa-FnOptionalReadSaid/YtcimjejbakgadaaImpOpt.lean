/- The contract of impl.ReadOptional. -/
import Derived.Test.YtcimjejbakgadaaDerOpt
import Derived.Test.YtcimjejbakgadaaImpAny
namespace Go.Proofs.Ytcimjejbakgadaa
open Go.RowKit
set_option linter.unusedVariables false

def QPost (w : World) (out : List Int) (pres : Bool) (rest : List Int) (ok : Bool) (e : Ending) (w' : World) : Prop :=
  ∃ a1 c1 a2 c2, e = .returned (.tuple #[.slice a1 out.length c1, .bool pres, .slice a2 rest.length c2, .bool ok]) ∧ out.length ≤ c1 ∧ c1 ≤ maxLen ∧ rest.length ≤ c2 ∧ c2 ≤ maxLen ∧ BIn w' w'.heap.size a1 out ∧ BIn w' w'.heap.size a2 rest ∧ Below w.heap.size w w'
def OptOf (xs : List Int) (tag : Int) (w : World) (e : Ending) (w' : World) : Prop :=
  ∃ (ok : Bool) (y1 y2 : List Int), QPost w y2 (isTag xs tag) y1 ok e w' ∧ (isTag xs tag = false → ok = true ∧ y1 = xs) ∧ (isTag xs tag = true → (firstOf xs tag).isSome = ok ∧ ∀ out rest, firstOf xs tag = some (out, rest) → y1 = rest ∧ y2 = out)

set_option maxRecDepth 100000 in
set_option maxHeartbeats 1600000 in
theorem iReadOpt_any (a : Option Addr) (n c : Nat) (xs : List Int) (tag : Int) (w : World) (hn : xs.length = n) (hb : BIn w w.heap.size a xs) (hx : Byt xs) (hl : n ≤ 4194304000) (h0 : 0 ≤ tag) (h1 : tag ≤ 255) :
    Calls Try.prog 59 #[.slice a n c, .int .i64 tag] w (OptOf xs tag w) := by
  have S := Lib.hid (str_any a n c xs w hn hb hl)
  have Hn := Lib.hid hn
  have Hl : Lim n := hl
  have Hx := Lib.hid hx
  clear hn hb hl hx
  go_enter Try.func59, Try.ntmps59
  go_wp2_with fail
  refine S.out.mono ?_
  rintro e w1 ⟨a1, c1, rfl, p1, p2, p3, p4, p5, p6⟩
  go_wp2_with fail
  obtain ⟨w2, hw2⟩ : ∃ w2, w2 = ((w1.alloc (.cells #[.slice a1 n c1] 66)).alloc (.cells #[.slice none 0 0] 66)).alloc (.cells #[.bool false] 4) := ⟨_, rfl⟩
  rw [← hw2]
  have q1 : Fr [] w1 w2 := by rw [hw2]; exact (((Fr.refl [] w1).alloc _).alloc _).alloc _
  have q2 : SlB w2 w1.heap.size w1.heap.size 66 n xs := ⟨a1, c1, by rw [hw2]; exact ((Blk.new _ _ _).alloc _).alloc _, p1, p2, Hn.out, q1.bin p3 (by simp), Hx.out⟩
  have q3 : Has w2 w1.heap.size (w1.heap.size + 1) 66 := ⟨0, [], ⟨none, 0, by rw [hw2]; exact (Blk.new' (by simp) _ _).alloc _, Nat.le_refl _, by simp [maxLen], rfl, BIn.nil _ _ _, Byt.nil⟩, by unfold Lim; omega⟩
  have q4 : Blk w2 (w1.heap.size + 1 + 1) 4 #[.bool false] := by rw [hw2]; exact Blk.new' (by simp) _ _
  clear hw2
  refine (readOpt_any w1.heap.size (w1.heap.size + 1) (w1.heap.size + 1 + 1) n xs tag false w1.heap.size w2 q2 q3 q4 (by omega) (by omega) (by omega) (Nat.le_refl _) (by omega) (by omega) Hl).mono ?_
  rintro e w3 ⟨ok, n1, n2, y1, y2, rfl, f, ⟨a3, c3, b1, b2, b3, b4, b5, b6⟩, ⟨a4, c4, d1, d2, d3, d4, d5, d6⟩, k1, l1, l2, m1, m2⟩
  have u0 := b1.one
  have u2 := d1.one
  have u4 := k1.one
  have M1 := Lib.hid m1
  have M2 := Lib.hid m2
  have H4 := Lib.hid b4
  have G4 := Lib.hid d4
  have F13 : Fr [] w w3 := ((Fr.of_below p5 []).trans q1 (by simp)).trans f (by have := p5.size; simp; omega)
  clear m1 m2 b4 d4
  go_wp2_with fail
  have C1 := Lib.hid (copied_any a4 n2 c4 y2 w3.drew G4.out d5.lt.drew l2)
  have C2 := Lib.hid (fun (W : World) (h : Below w3.drew.heap.size w3.drew W) => copied_any a3 n1 c3 y1 W H4.out (((show BIn w3.drew _ _ _ from b5.lt).below h).lt) l1)
  go_region_held3 (fun w' => w'.cell? ⟨w1.heap.size, 0, none⟩ = some (.slice a3 n1 c3) ∧ w'.cell? ⟨w1.heap.size + 1, 0, none⟩ = some (.slice a4 n2 c4) ∧ w'.cell? ⟨w1.heap.size + 1 + 1, 0, none⟩ = some (.bool (isTag xs tag))) (first | exact ⟨u0, u2, u4⟩ | exact ⟨(r5.cell (p := ⟨w1.heap.size, 0, none⟩) b1.lt).trans u0, (r5.cell (p := ⟨w1.heap.size + 1, 0, none⟩) d1.lt).trans u2, (r5.cell (p := ⟨w1.heap.size + 1 + 1, 0, none⟩) k1.lt).trans u4⟩ | exact ⟨((r5.trans (s5.mono r5.size)).cell (p := ⟨w1.heap.size, 0, none⟩) b1.lt).trans u0, ((r5.trans (s5.mono r5.size)).cell (p := ⟨w1.heap.size + 1, 0, none⟩) d1.lt).trans u2, ((r5.trans (s5.mono r5.size)).cell (p := ⟨w1.heap.size + 1 + 1, 0, none⟩) k1.lt).trans u4⟩) (first | (go_at_call 75; (with_reducible refine C1.out.mono ?_); rintro e w4 ⟨a5, c5, rfl, r1, r2, r3, r4, r5, r6⟩) | (go_at_call 75; (with_reducible refine (C2.out w4 r5).mono ?_); rintro e w5 ⟨a6, c6, rfl, s1, s2, s3, s4, s5, s6⟩))
  go_wp2
  refine bodyPost_ret (results4 rfl _ _ _) rfl ?_
  have g4 := G4.out
  have h4 := H4.out
  subst g4; subst h4
  exact ⟨ok, y1, y2, ⟨a5, c5, a6, c6, rfl, r1, r2, s1, s2, (r3.below s5).more s5.size, s3, ((F13.drew.trans (Fr.of_below r5 []) (by simp)).trans (Fr.of_below s5 []) (by simp)).below (by simp) (Nat.le_refl _)⟩, M1.out, M2.out⟩
end Go.Proofs.Ytcimjejbakgadaa
