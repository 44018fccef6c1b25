/- The contract of impl.ReadAny, with the blocks that its answer lies in: none that was there before. (Turned from the text ImpAny.) -/
import Derived.Test.YtdnepnnkpaoaaaaDerAny
import Derived.Test.YtdnepnnkpaoaaaaWKit
namespace Go.Proofs.Ytdnepnnkpaoaaaa
open Go.RowKit
set_option linter.unusedVariables false

/-- This holds, and holds whatever is done to blocks below B and to new ones. -/
def Solid (B : Nat) (w : World) (Q : World → Prop) : Prop := ∀ (S : List Nat) (w' : World), (∀ i ∈ S, i < B) → Fr S w w' → Q w'
theorem Solid.now {B : Nat} {w : World} {Q : World → Prop} (h : Solid B w Q) : Q w := h [] w (by simp) (Fr.refl _ _)
theorem Solid.move {B : Nat} {w w' : World} {Q : World → Prop} (h : Solid B w Q) (hf : Fr [] w w') : Solid B w' Q := fun S w2 hS hF => h S w2 hS ((hf.mono (by simp)).trans hF (fun i hi => .inl hi))
theorem Solid.less {B B' : Nat} {w : World} {Q : World → Prop} (h : Solid B w Q) (hB : B' ≤ B) : Solid B' w Q := fun S w2 hS hF => h S w2 (fun i hi => Nat.lt_of_lt_of_le (hS i hi) hB) hF
theorem solid_own {B B' n c : Nat} {w : World} {a : Option Addr} {xs : List Int} (h : OwnB w B' 5 (.slice a n c) xs) (hn : xs.length = n) (hB : B ≤ B') : Solid B w (fun w' => BIn w' w'.heap.size a xs) := fun S w' hS hF =>
  (h.fr hF (fun g hg hi => by have := (h.lt g hg).1; have := hS g hi; omega)).bin hn

/-- Contents, tag, what is left, and whether it went well. -/
def AnyYes (w : World) (out : List Int) (t : Int) (rest : List Int) (ok : Bool) (e : Ending) (w' : World) : Prop :=
  ∃ a1 c1 a2 c2, e = .returned (.tuple #[.slice a1 out.length c1, .int .i64 t, .slice a2 rest.length c2, .bool ok]) ∧ out.length ≤ c1 ∧ c1 ≤ maxLen ∧ rest.length ≤ c2 ∧ c2 ≤ maxLen ∧ Solid w.heap.size w' (fun w2 => BIn w2 w2.heap.size a1 out) ∧ Solid w.heap.size w' (fun w2 => BIn w2 w2.heap.size a2 rest) ∧ Below w.heap.size w w'
def AnyNo (w : World) (e : Ending) (w' : World) : Prop := ∃ v1 v2 v3, e = .returned (.tuple #[v1, v2, v3, .bool false]) ∧ Below w.heap.size w w'
def AnyOf (xs : List Int) (w : World) (e : Ending) (w' : World) : Prop :=
  match first xs with
  | some (t, b, k) => AnyYes w ((xs.take k).drop b) t (xs.drop k) true e w'
  | none => AnyNo w e w'

theorem results4 {fn : Func} {t u v x : Tmp} (h : fn.results = #[.tmp t, .tmp u, .tmp v, .tmp x]) (tmps : Array Value) (P : Program) (w : World) :
    (results fn tmps).run P w = .ok (.tuple #[tmps.getD t undef, tmps.getD u undef, tmps.getD v undef, tmps.getD x undef]) w := by simp [results, h]

/-- The two ends of a reading of any element, for one walk behind it. -/
theorem any_key {B g go gt : Nat} {n : Nat} {xs : List Int} {w w' : World} {e : Ending} (h : DerPost true B g go gt 74 n xs (.slice none 0 0) w e w') (hn : xs.length = n) (hl : n ≤ 4194304000) :
    ∃ (ok : Bool) (n1 n2 : Nat) (y1 y2 : List Int) (t : Int), e = .returned (.bool ok) ∧ Fr [g, go, gt] w w' ∧ SlB w' B g 74 n1 y1 ∧ SlB w' B go 74 n2 y2 ∧ Blk w' gt 80 #[.int .u8 t] ∧ n1 ≤ 4194304000 ∧ n2 ≤ 4194304000 ∧
      (ok = true → 0 ≤ t ∧ t < 256 ∨ ¬ Byt xs) ∧ ∀ w0 e2 w2 t2, (ok = true → t2 = t) → AnyYes w0 y2 t2 y1 ok e2 w2 → AnyOf xs w0 e2 w2 := by
  rcases h with ⟨hf, rfl, f, s1, s2, t, s3⟩ | ⟨t, b, k, hf, rfl, f, s1, s2, s3⟩
  · refine ⟨false, n, 0, xs, [], t, rfl, f, s1, ⟨none, 0, s2, Nat.le_refl _, by simp [maxLen], rfl, BIn.nil _ _ _, Byt.nil⟩, s3, hl, by omega, (fun h => by cases h), fun w0 e2 w2 t2 _ h => ?_⟩
    obtain ⟨a1, c1, a2, c2, he, _, _, _, _, _, _, hb⟩ := h
    unfold AnyOf
    rw [hf]
    exact ⟨_, _, _, he, hb⟩
  · have hb := first_bounds hf
    refine ⟨true, n - k, _, xs.drop k, (xs.take k).drop b, t, rfl, f, s1, s2, s3, by omega, by simp only [if_true]; omega, fun _ => ?_, fun w0 e2 w2 t2 ht h => ?_⟩
    · by_cases hx : Byt xs
      · exact .inl (by have := hx.getD 0; rw [hb.2.2.2.1] at this; exact this)
      · exact .inr hx
    · unfold AnyOf
      rw [hf, ← ht rfl]
      exact h

set_option maxRecDepth 100000 in
set_option maxHeartbeats 1600000 in
theorem iReadAny_any (a : Option Addr) (n c : Nat) (xs : List Int) (w : World) (hn : xs.length = n) (hb : BIn w w.heap.size a xs) (hx : Byt xs) (hl : n ≤ 4194304000) :
    Calls Try.prog 34 #[.slice a n c] w (AnyOf xs w) := by
  have S := Lib.hid (str_any a n c xs w hn hb hl)
  have Hn := Lib.hid hn
  have Hl : Lim n := hl
  have Hx := Lib.hid hx
  clear hn hb hl hx
  go_enter Try.func34, Try.ntmps34
  go_wp2_with fail
  refine S.out.mono ?_
  rintro e w1 ⟨a1, c1, rfl, p1, p2, p3, p4, p5, p6⟩
  go_wp2_with fail
  obtain ⟨w2, hw2⟩ : ∃ w2, w2 = ((w1.alloc (.cells #[.slice a1 n c1] 74)).alloc (.cells #[.slice none 0 0] 74)).alloc (.cells #[.int .u8 0] 80) := ⟨_, rfl⟩
  rw [← hw2]
  have q1 : Fr [] w1 w2 := by rw [hw2]; exact (((Fr.refl [] w1).alloc _).alloc _).alloc _
  have q2 : SlB w2 w1.heap.size w1.heap.size 74 n xs := ⟨a1, c1, by rw [hw2]; exact ((Blk.new _ _ _).alloc _).alloc _, p1, p2, Hn.out, q1.bin p3 (by simp), Hx.out⟩
  have q3 : Blk w2 (w1.heap.size + 1) 74 #[.slice none 0 0] := by rw [hw2]; exact (Blk.new' (by simp) _ _).alloc _
  have q4 : Blk w2 (w1.heap.size + 1 + 1) 80 #[.int .u8 0] := by rw [hw2]; exact Blk.new' (by simp) _ _
  clear hw2
  refine (readAnyASN1_any w1.heap.size (w1.heap.size + 1) (w1.heap.size + 1 + 1) (.slice none 0 0) n xs 0 w1.heap.size w2 q2 q3 q4 (by omega) (by omega) (by omega) (Nat.le_refl _) (by omega) (by omega) Hl).mono ?_
  intro e w3 hp
  obtain ⟨ok, n1, n2, y1, y2, t, rfl, f, ⟨a3, c3, b1, b2, b3, b4, b5, b6⟩, ⟨a4, c4, d1, d2, d3, d4, d5, d6⟩, k1, l1, l2, tb, fin⟩ := any_key hp Hn.out Hl.out
  have u0 := b1.one
  have u2 := d1.one
  have u4 := k1.one
  have Hfin := Lib.hid fin
  have Htb := Lib.hid tb
  have H4 := Lib.hid b4
  have G4 := Lib.hid d4
  have F13 : Fr [] w w3 := ((Fr.of_below p5 []).trans q1 (by simp)).trans f (by have := p5.size; simp; omega)
  clear hp fin b4 d4 tb
  go_wp2_with fail
  have C1 := Lib.hid (copied_any a4 n2 c4 y2 w3.drew G4.out d5.lt.drew l2)
  have C2 := Lib.hid (fun (W : World) (h : Below w3.drew.heap.size w3.drew W) => copied_any a3 n1 c3 y1 W H4.out (((show BIn w3.drew _ _ _ from b5.lt).below h).lt) l1)
  go_region_held3 (fun w' => w'.cell? ⟨w1.heap.size, 0, none⟩ = some (.slice a3 n1 c3) ∧ w'.cell? ⟨w1.heap.size + 1, 0, none⟩ = some (.slice a4 n2 c4) ∧ w'.cell? ⟨w1.heap.size + 1 + 1, 0, none⟩ = some (.int .u8 t)) (first | exact ⟨u0, u2, u4⟩ | exact ⟨(r5.cell (p := ⟨w1.heap.size, 0, none⟩) b1.lt).trans u0, (r5.cell (p := ⟨w1.heap.size + 1, 0, none⟩) d1.lt).trans u2, (r5.cell (p := ⟨w1.heap.size + 1 + 1, 0, none⟩) k1.lt).trans u4⟩ | exact ⟨((r5.trans (s5.mono r5.size)).cell (p := ⟨w1.heap.size, 0, none⟩) b1.lt).trans u0, ((r5.trans (s5.mono r5.size)).cell (p := ⟨w1.heap.size + 1, 0, none⟩) d1.lt).trans u2, ((r5.trans (s5.mono r5.size)).cell (p := ⟨w1.heap.size + 1 + 1, 0, none⟩) k1.lt).trans u4⟩) (first | (go_at_call 39; (with_reducible refine C1.out.mono ?_); rintro e w4 ⟨a5, c5, rfl, r1, r2, r3, r4, r5, r6⟩) | (go_at_call 39; (with_reducible refine (C2.out w4 r5).mono ?_); rintro e w5 ⟨a6, c6, rfl, s1, s2, s3, s4, s5, s6⟩))
  go_wp2
  refine bodyPost_ret (results4 rfl _ _ _) rfl ?_
  have g4 := G4.out
  have h4 := H4.out
  subst g4; subst h4
  exact Hfin.out _ _ _ _ (fun hok => by
    rcases Htb.out hok with h | h
    · exact wi64 (by omega) (by omega)
    · exact absurd Hx.out h) ⟨a5, c5, a6, c6, rfl, r1, r2, s1, s2, (solid_own r6 rfl (Nat.le_trans F13.size (Nat.le_refl _))).move (Fr.of_below s5 []), solid_own s6 rfl (Nat.le_trans F13.size r5.size), ((F13.drew.trans (Fr.of_below r5 []) (by simp)).trans (Fr.of_below s5 []) (by simp)).below (by simp) (Nat.le_refl _)⟩
end Go.Proofs.Ytdnepnnkpaoaaaa
