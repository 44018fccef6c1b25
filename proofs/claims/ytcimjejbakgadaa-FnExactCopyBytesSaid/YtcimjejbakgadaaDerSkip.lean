/- The contracts of (*String).SkipASN1 and of impl.SkipASN1. -/
import Derived.Test.YtcimjejbakgadaaImpAsn
namespace Go.Proofs.Ytcimjejbakgadaa
open Go.RowKit
set_option linter.unusedVariables false

/-- What a passing over leaves of the string's box. -/
def SkPost (B g : Nat) (r : Option (List Int × List Int)) (w : World) (e : Ending) (w' : World) : Prop :=
  ∃ (ok : Bool) (n1 : Nat) (y1 : List Int), e = .returned (.bool ok) ∧ Fr [g] w w' ∧ SlB w' B g 66 n1 y1 ∧ n1 ≤ 4194304000 ∧ r.isSome = ok ∧ ∀ out rest, r = some (out, rest) → y1 = rest

set_option maxHeartbeats 800000 in
theorem skipASN1_any (g : Nat) (n : Nat) (xs : List Int) (tag : Int) (B : Nat) (w : World)
    (hs : SlB w B g 66 n xs) (hB : B ≤ g) (hl : Lim n) :
    Calls Try.prog 89 #[.pointer (some ⟨g, 0, none⟩), .int .u8 tag] w (SkPost B g (firstOf xs tag) w) := by
  have hg1 : g < w.heap.size := by obtain ⟨a, c, k, _⟩ := hs; exact k.lt
  have Hs := Lib.hid hs
  clear hs
  go_enter Try.func89, Try.ntmps89
  go_wp2_with fail
  obtain ⟨w2, hw2⟩ : ∃ w2, w2 = w.alloc (.cells #[.slice none 0 0] 66) := ⟨_, rfl⟩
  rw [← hw2]
  have q1 : Fr [] w w2 := by rw [hw2]; exact (Fr.refl [] w).alloc _
  have q3 : Has w2 B w.heap.size 66 := ⟨0, [], ⟨none, 0, by rw [hw2]; exact Blk.new _ _ _, Nat.le_refl _, by simp [maxLen], rfl, BIn.nil _ _ _, Byt.nil⟩, by unfold Lim; omega⟩
  clear hw2
  have q2 : SlB w2 B g 66 n xs := Hs.out.fr q1 (by simp) (by simp)
  refine (readASN1t_any g w.heap.size n xs tag B w2 q2 q3 (by omega) hB (by omega) hl).mono ?_
  intro e w3 hp
  have hlen := Hs.out.len
  have hl' := hl.out
  obtain ⟨ok, n1, n2, y1, y2, rfl, f, s1, s2, l1, l2, _, k1, k2⟩ := asn_key hp (by omega)
  have K := Lib.hid (show SkPost B g (firstOf xs tag) w (.returned (.bool ok)) w3 from
    ⟨ok, n1, y1, rfl, (q1.mono (S' := [g]) (by simp)).trans f (by simp), s1, l1, k1, fun out rest h => (k2 out rest h).1⟩)
  clear hp k1 k2 s1 s2 f q1 q2 q3
  go_wp2
  go_ret
  exact K.out

/-- A slice and a bool are handed back. -/
def OnePost (w : World) (rest : List Int) (ok : Bool) (e : Ending) (w' : World) : Prop :=
  ∃ a c, e = .returned (.tuple #[.slice a rest.length c, .bool ok]) ∧ rest.length ≤ c ∧ c ≤ maxLen ∧ BIn w' w'.heap.size a rest ∧ Below w.heap.size w w'
def OneAny (w : World) (e : Ending) (w' : World) : Prop := ∃ v, e = .returned (.tuple #[v, .bool false]) ∧ Below w.heap.size w w'
def OneOf (r : Option (List Int × List Int)) (w : World) (e : Ending) (w' : World) : Prop :=
  match r with
  | some (_, rest) => OnePost w rest true e w'
  | none => OneAny w e w'

set_option maxRecDepth 100000 in
set_option maxHeartbeats 1600000 in
theorem iSkipASN1_any (a : Option Addr) (n c : Nat) (xs : List Int) (tag : Int) (w : World) (hn : xs.length = n) (hb : BIn w w.heap.size a xs) (hx : Byt xs) (hl : n ≤ 4194304000) (h0 : 0 ≤ tag) (h1 : tag ≤ 255) :
    Calls Try.prog 51 #[.slice a n c, .int .i64 tag] w (OneOf (firstOf xs tag) w) := by
  have S := Lib.hid (str_any a n c xs w hn hb hl)
  have Hn := Lib.hid hn
  have Hl : Lim n := hl
  clear hn hb hl
  go_enter Try.func51, Try.ntmps51
  go_wp2_with fail
  refine S.out.mono ?_
  rintro e w1 ⟨a1, c1, rfl, p1, p2, p3, p4, p5, p6⟩
  go_wp2_with fail
  obtain ⟨w2, hw2⟩ : ∃ w2, w2 = w1.alloc (.cells #[.slice a1 n c1] 66) := ⟨_, rfl⟩
  rw [← hw2]
  have q1 : Fr [] w1 w2 := by rw [hw2]; exact (Fr.refl [] w1).alloc _
  have q2 : SlB w2 w1.heap.size w1.heap.size 66 n xs := ⟨a1, c1, by rw [hw2]; exact Blk.new _ _ _, p1, p2, Hn.out, q1.bin p3 (by simp), hx⟩
  clear hw2
  refine (skipASN1_any w1.heap.size n xs tag w1.heap.size w2 q2 (Nat.le_refl _) Hl).mono ?_
  rintro e w3 ⟨ok, n1, y1, rfl, f, ⟨a3, c3, b1, b2, b3, b4, b5, b6⟩, l1, k1, k2⟩
  have c0 := b1.one
  have K1 := Lib.hid k1
  have K2 := Lib.hid k2
  have H4 := Lib.hid b4
  have F13 : Fr [] w w3 := ((Fr.of_below p5 []).trans q1 (by simp)).trans f (by have := p5.size; simp; omega)
  clear k1 k2 b4
  go_wp2_with fail
  refine (copied_any a3 n1 c3 y1 w3 H4.out b5.lt l1).mono ?_
  rintro e w4 ⟨a5, c5, rfl, r1, r2, r3, r4, r5, r6⟩
  go_wp2
  go_ret2
  have h4 := H4.out
  have k1 := K1.out
  have hB := (F13.trans (Fr.of_below r5 []) (by simp)).below (B := w.heap.size) (by simp) (Nat.le_refl _)
  unfold OneOf
  cases hf : firstOf xs tag with
  | none =>
    rw [hf] at k1
    subst k1
    exact ⟨_, rfl, hB⟩
  | some v =>
    obtain ⟨out, rest⟩ := v
    rw [hf] at k1
    have := K2.out out rest hf
    subst k1; subst this; subst h4
    exact ⟨a5, c5, rfl, r1, r2, r3, hB⟩
end Go.Proofs.Ytcimjejbakgadaa
