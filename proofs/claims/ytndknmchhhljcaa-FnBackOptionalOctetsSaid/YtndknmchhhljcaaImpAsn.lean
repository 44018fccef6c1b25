/- The contract of impl.ReadASN1. -/
import Derived.Test.YtndknmchhhljcaaDerAsn
namespace Go.Proofs.Ytndknmchhhljcaa
open Go.RowKit
set_option linter.unusedVariables false

/-- Two slices and a bool are handed back, in memory of the call's own. -/
def TwoPost (w : World) (out rest : List Int) (ok : Bool) (e : Ending) (w' : World) : Prop :=
  ∃ a1 c1 a2 c2, e = .returned (.tuple #[.slice a1 out.length c1, .slice a2 rest.length c2, .bool ok]) ∧ out.length ≤ c1 ∧ c1 ≤ maxLen ∧ rest.length ≤ c2 ∧ c2 ≤ maxLen ∧ BIn w' w'.heap.size a1 out ∧ BIn w' w'.heap.size a2 rest ∧ Below w.heap.size w w'

/-- .. where nothing is said of them. -/
def TwoAny (w : World) (e : Ending) (w' : World) : Prop := ∃ v1 v2, e = .returned (.tuple #[v1, v2, .bool false]) ∧ Below w.heap.size w w'

theorem TwoPost.any {w : World} {out rest : List Int} {e : Ending} {w' : World} (h : TwoPost w out rest false e w') : TwoAny w e w' := by
  obtain ⟨a1, c1, a2, c2, he, _, _, _, _, _, _, hb⟩ := h
  exact ⟨_, _, he, hb⟩

/-- What impl.ReadASN1 and its like hand back, as 'r' tells it. -/
def TwoOf (r : Option (List Int × List Int)) (w : World) (e : Ending) (w' : World) : Prop :=
  match r with
  | some (out, rest) => TwoPost w out rest true e w'
  | none => TwoAny w e w'

/-- The two ends of a reading by a tag, for one walk behind it. -/
theorem asn_key {B g go : Nat} {xs : List Int} {tag : Int} {w w' : World} {e : Ending} (h : AsnPost B g go xs tag w e w') (hl : xs.length ≤ 4194304000) :
    ∃ (ok : Bool) (n1 n2 : Nat) (y1 y2 : List Int), e = .returned (.bool ok) ∧ Fr [g, go] w w' ∧ SlB w' B g 82 n1 y1 ∧ SlB w' B go 82 n2 y2 ∧ n1 ≤ 4194304000 ∧ n2 ≤ 4194304000 ∧
      (∀ w0 e2 w2, TwoPost w0 y2 y1 ok e2 w2 → TwoOf (firstOf xs tag) w0 e2 w2) ∧ (firstOf xs tag).isSome = ok ∧ ∀ out rest, firstOf xs tag = some (out, rest) → y1 = rest ∧ y2 = out := by
  unfold AsnPost at h
  cases hf : firstOf xs tag with
  | none =>
    rw [hf] at h
    obtain ⟨rfl, f, ⟨n1, y1, s1, l1⟩, ⟨n2, y2, s2, l2⟩⟩ := h
    exact ⟨false, n1, n2, y1, y2, rfl, f, s1, s2, l1.out, l2.out, (fun w0 e2 w2 h => h.any), rfl, fun _ _ h => by cases h⟩
  | some v =>
    obtain ⟨out, rest⟩ := v
    rw [hf] at h
    obtain ⟨rfl, f, s1, s2⟩ := h
    obtain ⟨b, k, _, _, _, h3, h4, _⟩ := firstOf_inv hf
    exact ⟨true, _, _, rest, out, rfl, f, s1, s2, by omega, by omega, (fun w0 e2 w2 h => h), rfl, fun out' rest' h => by injection h with h; injection h with h1 h2; exact ⟨h2, h1⟩⟩

set_option maxRecDepth 100000 in
set_option maxHeartbeats 1600000 in
theorem iReadASN1_any (a : Option Addr) (n c : Nat) (xs : List Int) (tag : Int) (w : World) (hn : xs.length = n) (hb : BIn w w.heap.size a xs) (hx : Byt xs) (hl : n ≤ 4194304000) (h0 : 0 ≤ tag) (h1 : tag ≤ 255) :
    Calls Try.prog 43 #[.slice a n c, .int .i64 tag] w (TwoOf (firstOf xs tag) w) := by
  have S := Lib.hid (str_any a n c xs w hn hb hl)
  have Hn := Lib.hid hn
  have Hl : Lim n := hl
  clear hn hb hl
  go_enter Try.func43, Try.ntmps43
  go_wp2_with fail
  refine S.out.mono ?_
  rintro e w1 ⟨a1, c1, rfl, p1, p2, p3, p4, p5, p6⟩
  go_wp2_with fail
  obtain ⟨w2, hw2⟩ : ∃ w2, w2 = (w1.alloc (.cells #[.slice a1 n c1] 82)).alloc (.cells #[.slice none 0 0] 82) := ⟨_, rfl⟩
  rw [← hw2]
  have q1 : Fr [] w1 w2 := by rw [hw2]; exact ((Fr.refl [] w1).alloc _).alloc _
  have q2 : SlB w2 w1.heap.size w1.heap.size 82 n xs := ⟨a1, c1, by rw [hw2]; exact (Blk.new _ _ _).alloc _, p1, p2, Hn.out, q1.bin p3 (by simp), hx⟩
  have q3 : Has w2 w1.heap.size (w1.heap.size + 1) 82 := ⟨0, [], ⟨none, 0, by rw [hw2]; exact Blk.new' (by simp) _ _, Nat.le_refl _, by simp [maxLen], rfl, BIn.nil _ _ _, Byt.nil⟩, by unfold Lim; omega⟩
  clear hw2
  refine (readASN1t_any w1.heap.size (w1.heap.size + 1) n xs tag w1.heap.size w2 q2 q3 (by omega) (Nat.le_refl _) (by omega) Hl).mono ?_
  intro e w3 hp
  obtain ⟨ok, n1, n2, y1, y2, rfl, f, ⟨a3, c3, b1, b2, b3, b4, b5, b6⟩, ⟨a4, c4, d1, d2, d3, d4, d5, d6⟩, l1, l2, fin, _⟩ := asn_key hp (by rw [Hn.out]; exact Hl.out)
  have c0 := b1.one
  have c2 := d1.one
  have Hfin := Lib.hid fin
  have H4 := Lib.hid b4
  have G4 := Lib.hid d4
  have F13 : Fr [] w w3 := ((Fr.of_below p5 []).trans q1 (by simp)).trans f (by have := p5.size; simp; omega)
  clear hp fin b4 d4
  go_wp2_with fail
  have C1 := Lib.hid (copied_any a4 n2 c4 y2 w3.drew G4.out d5.lt.drew l2)
  have C2 := Lib.hid (fun (W : World) (h : Below w3.drew.heap.size w3.drew W) => copied_any a3 n1 c3 y1 W H4.out (((show BIn w3.drew _ _ _ from b5.lt).below h).lt) l1)
  go_region_held3 (fun w' => w'.cell? ⟨w1.heap.size, 0, none⟩ = some (.slice a3 n1 c3) ∧ w'.cell? ⟨w1.heap.size + 1, 0, none⟩ = some (.slice a4 n2 c4)) (first | exact ⟨c0, c2⟩ | exact ⟨(r5.cell (p := ⟨w1.heap.size, 0, none⟩) b1.lt).trans c0, (r5.cell (p := ⟨w1.heap.size + 1, 0, none⟩) d1.lt).trans c2⟩ | exact ⟨((r5.trans (s5.mono r5.size)).cell (p := ⟨w1.heap.size, 0, none⟩) b1.lt).trans c0, ((r5.trans (s5.mono r5.size)).cell (p := ⟨w1.heap.size + 1, 0, none⟩) d1.lt).trans c2⟩) (first | (go_at_call 78; (with_reducible refine C1.out.mono ?_); rintro e w4 ⟨a5, c5, rfl, r1, r2, r3, r4, r5, r6⟩) | (go_at_call 78; (with_reducible refine (C2.out w4 r5).mono ?_); rintro e w5 ⟨a6, c6, rfl, s1, s2, s3, s4, s5, s6⟩))
  go_wp2
  go_ret3
  have g4 := G4.out
  have h4 := H4.out
  subst g4; subst h4
  exact Hfin.out _ _ _ ⟨a5, c5, a6, c6, rfl, r1, r2, s1, s2, (r3.below s5).more s5.size, s3, ((F13.drew.trans (Fr.of_below r5 []) (by simp)).trans (Fr.of_below s5 []) (by simp)).below (by simp) (Nat.le_refl _)⟩
end Go.Proofs.Ytndknmchhhljcaa
