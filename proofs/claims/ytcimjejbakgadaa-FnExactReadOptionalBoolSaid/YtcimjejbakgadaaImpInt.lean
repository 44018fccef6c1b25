/- The contracts of impl.ReadInt64 and impl.ReadInt64WithTag. (Printed by gen_impint.py of this folder.) -/
import Derived.Test.YtcimjejbakgadaaIntR
import Derived.Test.YtcimjejbakgadaaRead2
import Derived.Test.YtcimjejbakgadaaImpAsn
namespace Go.Proofs.Ytcimjejbakgadaa
open Go.RowKit
set_option linter.unusedVariables false

/-- What they hand back. -/
def IOf (r : Option (Int × List Int)) (w : World) (e : Ending) (w' : World) : Prop :=
  match r with
  | some (v, rest) => NumPost w (.int .i64 v) rest.length rest true e w'
  | none => TwoAny w e w'

theorem int_key {B g go : Nat} {xs : List Int} {tag : Int} {w w' : World} {e : Ending} (h : IntPost B g go (intRead xs tag) w e w') (hl : xs.length ≤ 4194304000) :
    ∃ (ok : Bool) (n1 : Nat) (y1 : List Int) (v : Int), e = .returned (.bool ok) ∧ Fr [g, go] w w' ∧ SlB w' B g 66 n1 y1 ∧ Blk w' go 2 #[.int .i64 v] ∧ n1 ≤ 4194304000 ∧
      (∀ w0 e2 w2, NumPost w0 (.int .i64 v) y1.length y1 ok e2 w2 → IOf (intRead xs tag) w0 e2 w2) := by
  cases hf : intRead xs tag with
  | none =>
    rw [hf] at h
    obtain ⟨rfl, f, ⟨n1, y1, s1, l1⟩, k⟩ := h
    exact ⟨false, n1, y1, 0, rfl, f, s1, k, l1.out, fun w0 e2 w2 ⟨a, c, he, _, _, _, hb⟩ => ⟨_, _, he, hb⟩⟩
  | some v =>
    obtain ⟨v, rest⟩ := v
    rw [hf] at h
    obtain ⟨rfl, f, s1, k⟩ := h
    have : rest.length ≤ xs.length := by
      unfold intRead at hf
      cases hq : firstOf xs tag with
      | none => rw [hq] at hf; cases hf
      | some p =>
        obtain ⟨o, r⟩ := p
        rw [hq] at hf
        simp only at hf
        split at hf
        · injection hf with hf; injection hf with _ hf; subst hf
          obtain ⟨b, k, _, _, _, h3, h4, _⟩ := firstOf_inv hq
          omega
        · cases hf
    exact ⟨true, _, rest, v, rfl, f, s1, k, by omega, fun w0 e2 w2 h => h⟩

set_option maxRecDepth 100000 in
set_option maxHeartbeats 1600000 in
theorem iReadInt64_any (a : Option Addr) (n c : Nat) (xs : List Int) (w : World) (hn : xs.length = n) (hb : BIn w w.heap.size a xs) (hx : Byt xs) (hl : n ≤ 4194304000) :
    Calls Try.prog 66 #[.slice a n c] w (IOf (intRead xs 2) w) := by
  have S := Lib.hid (str_any a n c xs w hn hb hl)
  have Hn := Lib.hid hn
  have Hl : Lim n := hl
  clear hn hb hl
  go_enter Try.func66, Try.ntmps66
  go_wp2_with fail
  refine S.out.mono ?_
  rintro e w1 ⟨a1, c1, rfl, p1, p2, p3, p4, p5, p6⟩
  go_wp2_with fail
  obtain ⟨w2, hw2⟩ : ∃ w2, w2 = (w1.alloc (.cells #[.slice a1 n c1] 66)).alloc (.cells #[.int .i64 0] 2) := ⟨_, rfl⟩
  rw [← hw2]
  have q1 : Fr [] w1 w2 := by rw [hw2]; exact ((Fr.refl [] w1).alloc _).alloc _
  have q2 : SlB w2 w1.heap.size w1.heap.size 66 n xs := ⟨a1, c1, by rw [hw2]; exact (Blk.new _ _ _).alloc _, p1, p2, Hn.out, q1.bin p3 (by simp), hx⟩
  have q3 : Blk w2 (w1.heap.size + 1) 2 #[.int .i64 0] := by rw [hw2]; exact Blk.new' (by simp) _ _
  clear hw2
  refine (readInt64_any w1.heap.size (w1.heap.size + 1) n xs w1.heap.size w2 q2 q3 (by omega) (Nat.le_refl _) (by omega) Hl).mono ?_
  intro e w3 hp
  obtain ⟨ok, n1, y1, v, rfl, f, ⟨a3, c3, b1, b2, b3, b4, b5, b6⟩, d1, l1, fin⟩ := int_key hp (by rw [Hn.out]; exact Hl.out)
  have c0 := b1.one
  have c2 := d1.one
  have Hfin := Lib.hid fin
  have H4 := Lib.hid b4
  have F13 : Fr [] w w3 := ((Fr.of_below p5 []).trans q1 (by simp)).trans f (by have := p5.size; simp; omega)
  clear hp fin b4
  go_wp2_with fail
  have C := Lib.hid (copied_any a3 n1 c3 y1 w3.drew H4.out b5.lt.drew l1)
  go_region_held3 (fun w' => w'.cell? ⟨w1.heap.size, 0, none⟩ = some (.slice a3 n1 c3) ∧ w'.cell? ⟨w1.heap.size + 1, 0, none⟩ = some (.int .i64 v)) (first | exact ⟨c0, c2⟩ | exact ⟨(r5.cell (p := ⟨w1.heap.size, 0, none⟩) b1.lt).trans c0, (r5.cell (p := ⟨w1.heap.size + 1, 0, none⟩) d1.lt).trans c2⟩) (first | (go_at_call 75; refine C.out.mono ?_; rintro e w4 ⟨a5, c5, rfl, r1, r2, r3, r4, r5, r6⟩))
  go_wp2
  go_ret3
  have h4 := H4.out
  subst h4
  exact Hfin.out _ _ _ ⟨a5, c5, rfl, r1, r2, r3, ((F13.drew.trans (Fr.of_below r5 []) (by simp))).below (by simp) (Nat.le_refl _)⟩


set_option maxRecDepth 100000 in
set_option maxHeartbeats 1600000 in
theorem iReadIntT_any (a : Option Addr) (n c : Nat) (xs : List Int) (tag : Int) (w : World) (hn : xs.length = n) (hb : BIn w w.heap.size a xs) (hx : Byt xs) (hl : n ≤ 4194304000) (h0 : 0 ≤ tag) (h1 : tag ≤ 255) :
    Calls Try.prog 62 #[.slice a n c, .int .i64 tag] w (IOf (intRead xs tag) w) := by
  have S := Lib.hid (str_any a n c xs w hn hb hl)
  have Hn := Lib.hid hn
  have Hl : Lim n := hl
  clear hn hb hl
  go_enter Try.func62, Try.ntmps62
  go_wp2_with fail
  refine S.out.mono ?_
  rintro e w1 ⟨a1, c1, rfl, p1, p2, p3, p4, p5, p6⟩
  go_wp2_with fail
  obtain ⟨w2, hw2⟩ : ∃ w2, w2 = (w1.alloc (.cells #[.slice a1 n c1] 66)).alloc (.cells #[.int .i64 0] 2) := ⟨_, rfl⟩
  rw [← hw2]
  have q1 : Fr [] w1 w2 := by rw [hw2]; exact ((Fr.refl [] w1).alloc _).alloc _
  have q2 : SlB w2 w1.heap.size w1.heap.size 66 n xs := ⟨a1, c1, by rw [hw2]; exact (Blk.new _ _ _).alloc _, p1, p2, Hn.out, q1.bin p3 (by simp), hx⟩
  have q3 : Blk w2 (w1.heap.size + 1) 2 #[.int .i64 0] := by rw [hw2]; exact Blk.new' (by simp) _ _
  clear hw2
  refine (readIntT_any w1.heap.size (w1.heap.size + 1) n xs tag w1.heap.size w2 q2 q3 (by omega) (Nat.le_refl _) (by omega) Hl).mono ?_
  intro e w3 hp
  obtain ⟨ok, n1, y1, v, rfl, f, ⟨a3, c3, b1, b2, b3, b4, b5, b6⟩, d1, l1, fin⟩ := int_key hp (by rw [Hn.out]; exact Hl.out)
  have c0 := b1.one
  have c2 := d1.one
  have Hfin := Lib.hid fin
  have H4 := Lib.hid b4
  have F13 : Fr [] w w3 := ((Fr.of_below p5 []).trans q1 (by simp)).trans f (by have := p5.size; simp; omega)
  clear hp fin b4
  go_wp2_with fail
  have C := Lib.hid (copied_any a3 n1 c3 y1 w3.drew H4.out b5.lt.drew l1)
  go_region_held3 (fun w' => w'.cell? ⟨w1.heap.size, 0, none⟩ = some (.slice a3 n1 c3) ∧ w'.cell? ⟨w1.heap.size + 1, 0, none⟩ = some (.int .i64 v)) (first | exact ⟨c0, c2⟩ | exact ⟨(r5.cell (p := ⟨w1.heap.size, 0, none⟩) b1.lt).trans c0, (r5.cell (p := ⟨w1.heap.size + 1, 0, none⟩) d1.lt).trans c2⟩) (first | (go_at_call 75; refine C.out.mono ?_; rintro e w4 ⟨a5, c5, rfl, r1, r2, r3, r4, r5, r6⟩))
  go_wp2
  go_ret3
  have h4 := H4.out
  subst h4
  exact Hfin.out _ _ _ ⟨a5, c5, rfl, r1, r2, r3, ((F13.drew.trans (Fr.of_below r5 []) (by simp))).below (by simp) (Nat.le_refl _)⟩


end Go.Proofs.Ytcimjejbakgadaa
