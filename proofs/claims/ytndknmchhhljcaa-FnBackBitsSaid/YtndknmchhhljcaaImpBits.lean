/- The contracts of impl.ReadBits and of laws.isBits. (Printed by gen_ibits.py.) -/
import Derived.Test.YtndknmchhhljcaaBits
namespace Go.Proofs.Ytndknmchhhljcaa
open Go.RowKit
set_option linter.unusedVariables false

def BitsYes (w : World) (out : List Int) (k : Int) (rest : List Int) (ok : Bool) (e : Ending) (w' : World) : Prop :=
  ∃ a1 c1 a2 c2, e = .returned (.tuple #[.slice a1 out.length c1, .int .i64 k, .slice a2 rest.length c2, .bool ok]) ∧ out.length ≤ c1 ∧ c1 ≤ maxLen ∧ rest.length ≤ c2 ∧ c2 ≤ maxLen ∧ BIn w' w'.heap.size a1 out ∧ BIn w' w'.heap.size a2 rest ∧ Below w.heap.size w w'
def BitsOf4 (r : Option ((List Int × Int) × List Int)) (w : World) (e : Ending) (w' : World) : Prop :=
  match r with
  | some ((out, k), rest) => BitsYes w out k rest true e w'
  | none => ∃ v1 v2 v3, e = .returned (.tuple #[v1, v2, v3, .bool false]) ∧ Below w.heap.size w w'

theorem bitRead_some {xs out rest : List Int} {p : List Int × Int} (hf : firstOf xs 3 = some (out, rest)) (hv : bitsVal out = some p) : bitRead xs = some (p, rest) := by
  unfold bitRead
  simp only [hf, hv]

theorem bits_key {B g go : Nat} {xs : List Int} {w w' : World} {e : Ending} (h : BitPost B g go (bitRead xs) w e w') (hl : xs.length ≤ 4194304000) :
    ∃ (ok : Bool) (n1 n2 : Nat) (y1 y2 : List Int) (z : Int), e = .returned (.bool ok) ∧ Fr [g, go] w w' ∧ SlB w' B g 82 n1 y1 ∧ (∃ a4 c4, Blk w' go 109 #[.slice a4 n2 c4, .int .i64 z] ∧ n2 ≤ c4 ∧ c4 ≤ maxLen ∧ y2.length = n2 ∧ BIn w' B a4 y2) ∧ n1 ≤ 4194304000 ∧ n2 ≤ 4194304000 ∧
      ∀ w0 e2 w2, BitsYes w0 y2 z y1 ok e2 w2 → BitsOf4 (bitRead xs) w0 e2 w2 := by
  cases hf : bitRead xs with
  | none =>
    rw [hf] at h
    obtain ⟨rfl, f, ⟨n1, y1, s1, l1⟩, k⟩ := h
    exact ⟨false, n1, 0, y1, [], 0, rfl, f, s1, ⟨_, _, k, Nat.le_refl _, by simp [maxLen], rfl, BIn.nil _ _ _⟩, l1.out, by omega, fun w0 e2 w2 ⟨a1, c1, a2, c2, he, _, _, _, _, _, _, hb⟩ => ⟨_, _, _, he, hb⟩⟩
  | some v =>
    obtain ⟨⟨bs, k⟩, rest⟩ := v
    rw [hf] at h
    obtain ⟨rfl, f, s1, a, c, d1, d2, d3, d4, d5⟩ := h
    have hlen : bs.length ≤ 4194304000 ∧ rest.length ≤ 4194304000 := by
      unfold bitRead at hf
      cases h3 : firstOf xs 3 with
      | none => rw [h3] at hf; cases hf
      | some u =>
        obtain ⟨out, rest'⟩ := u
        rw [h3] at hf
        simp only at hf
        obtain ⟨b, q, _, _, _, e3, e4, _⟩ := firstOf_inv h3
        cases hv : bitsVal out with
        | none => rw [hv] at hf; cases hf
        | some p =>
          rw [hv] at hf
          injection hf with hf
          injection hf with hf1 hf2
          subst hf1; subst hf2
          cases out with
          | nil => cases hv
          | cons x l =>
            rw [bitsVal_cons'] at hv
            split at hv
            · cases hv
            · injection hv with hv; injection hv with hv1 hv2; subst hv1; simp at e3; omega
    exact ⟨true, _, _, rest, bs, k, rfl, f, s1, ⟨a, c, d1, d2, d3, rfl, d4⟩, hlen.2, hlen.1, fun w0 e2 w2 h => h⟩

set_option maxRecDepth 100000 in
set_option maxHeartbeats 1600000 in
theorem iReadBits_any (a : Option Addr) (n c : Nat) (xs : List Int) (w : World) (hn : xs.length = n) (hb : BIn w w.heap.size a xs) (hx : Byt xs) (hl : n ≤ 4194304000) :
    Calls Try.prog 66 #[.slice a n c] w (BitsOf4 (bitRead xs) w) := by
  have S := Lib.hid (str_any a n c xs w hn hb hl)
  have Hn := Lib.hid hn
  have Hl : Lim n := hl
  have Hx := Lib.hid hx
  clear hn hb hl hx
  go_enter Try.func66, Try.ntmps66
  go_wp2_with fail
  refine S.out.mono ?_
  rintro e w1 ⟨a1, c1, rfl, p1, p2, p3, p4, p5, p6⟩
  go_wp2_with fail
  obtain ⟨w2, hw2⟩ : ∃ w2, w2 = (w1.alloc (.cells #[.slice a1 n c1] 82)).alloc (.cells #[.slice none 0 0, .int .i64 0] 109) := ⟨_, rfl⟩
  rw [← hw2]
  have q1 : Fr [] w1 w2 := by rw [hw2]; exact ((Fr.refl [] w1).alloc _).alloc _
  have q2 : SlB w2 w1.heap.size w1.heap.size 82 n xs := ⟨a1, c1, by rw [hw2]; exact (Blk.new _ _ _).alloc _, p1, p2, Hn.out, q1.bin p3 (by simp), Hx.out⟩
  have q3 : Blk w2 (w1.heap.size + 1) 109 #[.slice none 0 0, .int .i64 0] := by rw [hw2]; exact Blk.new' (by simp) _ _
  clear hw2
  refine (readBits_any w1.heap.size (w1.heap.size + 1) n xs w1.heap.size w2 q2 q3 (by omega) (Nat.le_refl _) (by omega) Hl).mono ?_
  intro e w3 hp
  obtain ⟨ok, n1, n2, y1, y2, z, rfl, f, ⟨a3, c3, b1, b2, b3, b4, b5, b6⟩, ⟨a4, c4, d1, d2, d3, d4, d5⟩, l1, l2, fin⟩ := bits_key hp (by rw [Hn.out]; exact Hl.out)
  have u0 := b1.one
  have u2 : w3.cell? ⟨w1.heap.size + 1, 0, none⟩ = some (.slice a4 n2 c4) := d1.cell 0
  have u4 : w3.cell? ⟨w1.heap.size + 1, 1, none⟩ = some (.int .i64 z) := d1.cell 1
  have Hfin := Lib.hid fin
  have H4 := Lib.hid b4
  have G4 := Lib.hid d4
  have F13 : Fr [] w w3 := ((Fr.of_below p5 []).trans q1 (by simp)).trans f (by have := p5.size; simp; omega)
  clear hp fin b4 d4
  go_wp2_with fail
  have C1 := Lib.hid (copied_any a4 n2 c4 y2 w3.drew G4.out d5.lt.drew l2)
  have C2 := Lib.hid (fun (W : World) (h : Below w3.drew.heap.size w3.drew W) => copied_any a3 n1 c3 y1 W H4.out (((show BIn w3.drew _ _ _ from b5.lt).below h).lt) l1)
  go_region_held3 (fun w' => w'.cell? ⟨w1.heap.size, 0, none⟩ = some (.slice a3 n1 c3) ∧ w'.cell? ⟨w1.heap.size + 1, 0, none⟩ = some (.slice a4 n2 c4) ∧ w'.cell? ⟨w1.heap.size + 1, 1, none⟩ = some (.int .i64 z)) (first | exact ⟨u0, u2, u4⟩ | exact ⟨(r5.cell (p := ⟨w1.heap.size, 0, none⟩) b1.lt).trans u0, (r5.cell (p := ⟨w1.heap.size + 1, 0, none⟩) d1.lt).trans u2, (r5.cell (p := ⟨w1.heap.size + 1, 1, none⟩) d1.lt).trans u4⟩ | exact ⟨((r5.trans (s5.mono r5.size)).cell (p := ⟨w1.heap.size, 0, none⟩) b1.lt).trans u0, ((r5.trans (s5.mono r5.size)).cell (p := ⟨w1.heap.size + 1, 0, none⟩) d1.lt).trans u2, ((r5.trans (s5.mono r5.size)).cell (p := ⟨w1.heap.size + 1, 1, none⟩) d1.lt).trans u4⟩) (first | (go_at_call 78; (with_reducible refine C1.out.mono ?_); rintro e w4 ⟨a5, c5, rfl, r1, r2, r3, r4, r5, r6⟩) | (go_at_call 78; (with_reducible refine (C2.out w4 r5).mono ?_); rintro e w5 ⟨a6, c6, rfl, s1, s2, s3, s4, s5, s6⟩))
  go_wp2
  refine bodyPost_ret (results4 rfl _ _ _) rfl ?_
  have g4 := G4.out
  have h4 := H4.out
  subst g4; subst h4
  exact Hfin.out _ _ _ ⟨a5, c5, a6, c6, rfl, r1, r2, s1, s2, (r3.below s5).more s5.size, s3, ((F13.drew.trans (Fr.of_below r5 []) (by simp)).trans (Fr.of_below s5 []) (by simp)).below (by simp) (Nat.le_refl _)⟩
end Go.Proofs.Ytndknmchhhljcaa
