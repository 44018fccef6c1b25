/- The contracts of ReadOptionalASN1Boolean and of impl.ReadOptionalBool. -/
import Derived.Test.YtcimjejbakgadaaBoolR
import Derived.Test.YtcimjejbakgadaaImpAny
namespace Go.Proofs.Ytcimjejbakgadaa
open Go.RowKit
set_option linter.unusedVariables false

/-- What a boolean that may be left out is read to. -/
def OBool (xs : List Int) (t : Int) (df : Bool) (ok v : Bool) (y : List Int) : Prop :=
  (isTag xs t = false → ok = true ∧ v = df ∧ y = xs) ∧ (isTag xs t = true → (optBool xs t).isSome = ok ∧ ∀ v' rest, optBool xs t = some (v', rest) → v = v' ∧ y = rest)

set_option maxRecDepth 100000 in
set_option maxHeartbeats 1600000 in
theorem readOptBool_any (g go : Nat) (n : Nat) (xs : List Int) (t : Int) (z df : Bool) (B : Nat) (w : World)
    (hs : SlB w B g 66 n xs) (ho : Blk w go 4 #[.bool z]) (h1 : g ≠ go) (hB : B ≤ g) (hBo : B ≤ go) (hl : Lim n) :
    Calls Try.prog 99 #[.pointer (some ⟨g, 0, none⟩), .pointer (some ⟨go, 0, none⟩), .int .u8 t, .bool df] w fun e w' => ∃ (ok v : Bool) (n1 : Nat) (y1 : List Int), e = .returned (.bool ok) ∧ Fr [g, go] w w' ∧ SlB w' B g 66 n1 y1 ∧ n1 ≤ 4194304000 ∧ Blk w' go 4 #[.bool v] ∧ OBool xs t df ok v y1 := by
  have hg1 : g < w.heap.size := by obtain ⟨a, c, k, _⟩ := hs; exact k.lt
  have hg2 : go < w.heap.size := ho.lt
  obtain ⟨w1, hw1⟩ : ∃ w1, w1 = (w.alloc (.cells #[.bool false] 4)).alloc (.cells #[.slice none 0 0] 66) := ⟨_, rfl⟩
  have q1 : Fr [] w w1 := by rw [hw1]; exact ((Fr.refl _ w).alloc _).alloc _
  have q2 : Has w1 B (w.heap.size + 1) 66 := ⟨0, [], ⟨none, 0, by rw [hw1]; exact Blk.new' (by simp) _ _, Nat.le_refl _, by simp [maxLen], rfl, BIn.nil _ _ _, Byt.nil⟩, by unfold Lim; omega⟩
  have q3 : Blk w1 w.heap.size 4 #[.bool false] := by rw [hw1]; exact (Blk.new _ _ _).alloc _
  have H := Lib.hid (readOpt_any g (w.heap.size + 1) w.heap.size n xs t false B w1 (hs.fr q1 (by simp) (by simp)) q2 q3 (by omega) (by omega) (by omega) hB (by omega) (by omega) hl)
  have Ho := Lib.hid (q1.blk ho (by simp))
  have F : ∀ w' S, (∀ i ∈ S, i = g ∨ i = go ∨ w.heap.size ≤ i) → Fr S w1 w' → Fr [g, go] w w' := fun w' S hS f => (q1.mono (S' := [g, go]) (by simp)).trans f (by
    intro i hi
    rcases hS i hi with h | h | h
    · exact .inl (by simp [h])
    · exact .inl (by simp [h])
    · exact .inr h)
  have F' := Lib.hid F
  clear hs ho q1 q2 q3 F
  cases hi : isTag xs t with
  | false =>
    have Hi := Lib.hid hi
    clear hi
    go_enter Try.func99, Try.ntmps99
    go_wp2_with fail
    rw [← hw1]
    refine H.out.mono ?_
    rintro e w2 ⟨ok, n1, n2, y1, y2, rfl, f, s1, s2, s3, l1, l2, m1, _⟩
    obtain ⟨rfl, rfl⟩ := m1 Hi.out
    rw [Hi.out] at s3
    have c0 := s3.one
    have k := f.blk Ho.out (by simp; omega)
    have g0 := k.one
    have gf := k.frozen 0
    have K := Lib.hid k
    have HF := Lib.hid f
    have Hs1 := Lib.hid s1
    clear f s1 s2 s3 k hw1 m1
    go_wp2_with fail
    go_ret
    have f3 : Fr [go] w2 (w2.setCell ⟨go, 0, none⟩ (.bool df)) := (Fr.refl [go] w2).set_ (p := ⟨go, 0, none⟩) (.inl (by simp)) _
    exact ⟨true, df, _, _, rfl, (F'.out _ [g, w.heap.size + 1, w.heap.size] (by simp) HF.out).trans f3 (by simp), Hs1.out.fr f3 (by simp; omega) (by simp; omega), l1, K.out.set_ 0 _, fun _ => ⟨rfl, rfl, rfl⟩, fun h => by rw [Hi.out] at h; cases h⟩
  | true =>
    have Hi := Lib.hid hi
    cases hf : firstOf xs t with
    | none =>
      have Hf := Lib.hid hf
      clear hi hf
      go_enter Try.func99, Try.ntmps99
      go_wp2_with fail
      rw [← hw1]
      refine H.out.mono ?_
      rintro e w2 ⟨ok, n1, n2, y1, y2, rfl, f, s1, s2, s3, l1, l2, _, m2⟩
      obtain ⟨k1, _⟩ := m2 Hi.out
      rw [Hf.out] at k1
      have k1' : ok = false := k1.symm
      subst k1'
      have K := Lib.hid (f.blk Ho.out (by simp; omega))
      have HF := Lib.hid f
      have Hs1 := Lib.hid s1
      clear f s1 s2 s3 hw1 m2 k1
      go_wp2
      go_ret
      exact ⟨false, z, _, _, rfl, F'.out _ [g, w.heap.size + 1, w.heap.size] (by simp) HF.out, Hs1.out, l1, K.out, (fun h => by rw [Hi.out] at h; cases h), fun _ => ⟨by simp [optBool, Hf.out], fun _ _ h => by simp [optBool, Hf.out] at h⟩⟩
    | some p =>
      obtain ⟨out, rest⟩ := p
      have Hf := Lib.hid hf
      clear hi hf
      go_enter Try.func99, Try.ntmps99
      go_wp2_with fail
      rw [← hw1]
      refine H.out.mono ?_
      rintro e w2 ⟨ok, n1, n2, y1, y2, rfl, f, s1, s2, s3, l1, l2, _, m2⟩
      obtain ⟨k1, k2⟩ := m2 Hi.out
      rw [Hf.out] at k1
      have k1' : ok = true := k1.symm
      subst k1'
      obtain ⟨rfl, rfl⟩ := k2 _ _ Hf.out
      rw [Hi.out] at s3
      have c0 := s3.one
      have M := Lib.hid (readBool_any (w.heap.size + 1) go n2 y2 z B w2 s2 (f.blk Ho.out (by simp; omega)) (by omega) (by omega) hBo l2)
      have HF := Lib.hid f
      have Hs1 := Lib.hid s1
      clear f s1 s2 s3 hw1 m2 k1 k2
      go_wp2_with fail
      refine M.out.mono ?_
      rintro e w3 ⟨ok, v, rfl, f3, k3, b1, b2⟩
      have Hf3 := Lib.hid f3
      have K3 := Lib.hid k3
      have B1 := Lib.hid b1
      have B2 := Lib.hid b2
      clear f3 k3 b1 b2
      go_wp2
      go_ret
      refine ⟨ok, v, _, _, rfl, (F'.out _ [g, w.heap.size + 1, w.heap.size] (by simp) HF.out).trans Hf3.out (by simp), Hs1.out.fr Hf3.out (by simp; omega) (by simp; omega), l1, K3.out, (fun h => by rw [Hi.out] at h; cases h), fun _ => ⟨?_, fun v' r' h => ?_⟩⟩
      · have := B1.out
        simp [optBool, Hf.out, this]
      · unfold optBool at h
        rw [Hf.out] at h
        cases hb : boolRead y2 with
        | none => simp [hb] at h
        | some p =>
          obtain ⟨u, r2⟩ := p
          simp only [Option.bind_some, hb, Option.map_some, Option.some.injEq, Prod.mk.injEq] at h
          obtain ⟨rfl, rfl⟩ := h
          exact ⟨B2.out _ _ hb, rfl⟩

set_option maxRecDepth 100000 in
set_option maxHeartbeats 1600000 in
theorem iReadOptBool_any (a : Option Addr) (n c : Nat) (xs : List Int) (t : Int) (df : Bool) (w : World) (hn : xs.length = n) (hb : BIn w w.heap.size a xs) (hx : Byt xs) (hl : n ≤ 4194304000) (h0 : 0 ≤ t) (h1 : t ≤ 255) :
    Calls Try.prog 67 #[.slice a n c, .int .i64 t, .bool df] w fun e w' => ∃ (ok v : Bool) (y : List Int), NumPost w (.bool v) y.length y ok e w' ∧ OBool xs t df ok v y := by
  have S := Lib.hid (str_any a n c xs w hn hb hl)
  have Hn := Lib.hid hn
  have Hl : Lim n := hl
  have Hx := Lib.hid hx
  clear hn hb hl hx
  go_enter Try.func67, Try.ntmps67
  go_wp2_with fail
  refine S.out.mono ?_
  rintro e w1 ⟨a1, c1, rfl, p1, p2, p3, p4, p5, p6⟩
  go_wp2_with fail
  obtain ⟨w2, hw2⟩ : ∃ w2, w2 = (w1.alloc (.cells #[.slice a1 n c1] 66)).alloc (.cells #[.bool false] 4) := ⟨_, rfl⟩
  rw [← hw2]
  have q1 : Fr [] w1 w2 := by rw [hw2]; exact ((Fr.refl [] w1).alloc _).alloc _
  have q2 : SlB w2 w1.heap.size w1.heap.size 66 n xs := ⟨a1, c1, by rw [hw2]; exact (Blk.new _ _ _).alloc _, p1, p2, Hn.out, q1.bin p3 (by simp), Hx.out⟩
  have q3 : Blk w2 (w1.heap.size + 1) 4 #[.bool false] := by rw [hw2]; exact Blk.new' (by simp) _ _
  clear hw2
  refine (readOptBool_any w1.heap.size (w1.heap.size + 1) n xs t false df w1.heap.size w2 q2 q3 (by omega) (Nat.le_refl _) (by omega) Hl).mono ?_
  rintro e w3 ⟨ok, v, n1, y1, rfl, f, ⟨a3, c3, b1, b2, b3, b4, b5, b6⟩, l1, d1, ob⟩
  have c0 := b1.one
  have c2 := d1.one
  have Ob := Lib.hid ob
  have H4 := Lib.hid b4
  have F13 : Fr [] w w3 := ((Fr.of_below p5 []).trans q1 (by simp)).trans f (by have := p5.size; simp; omega)
  clear b4 ob
  go_wp2_with fail
  have C := Lib.hid (copied_any a3 n1 c3 y1 w3.drew H4.out b5.lt.drew l1)
  go_region_held3 (fun w' => w'.cell? ⟨w1.heap.size, 0, none⟩ = some (.slice a3 n1 c3) ∧ w'.cell? ⟨w1.heap.size + 1, 0, none⟩ = some (.bool v)) (first | exact ⟨c0, c2⟩ | exact ⟨(r5.cell (p := ⟨w1.heap.size, 0, none⟩) b1.lt).trans c0, (r5.cell (p := ⟨w1.heap.size + 1, 0, none⟩) d1.lt).trans c2⟩) (first | (go_at_call 75; refine C.out.mono ?_; rintro e w4 ⟨a5, c5, rfl, r1, r2, r3, r4, r5, r6⟩))
  go_wp2
  go_ret3
  have h4 := H4.out
  subst h4
  exact ⟨ok, v, y1, ⟨a5, c5, rfl, r1, r2, r3, ((F13.drew.trans (Fr.of_below r5 []) (by simp))).below (by simp) (Nat.le_refl _)⟩, Ob.out⟩
end Go.Proofs.Ytcimjejbakgadaa
