/- The contracts of PeekASN1Tag and of ReadOptionalASN1. -/
import Derived.Test.YtndknmchhhljcaaImpAsn
namespace Go.Proofs.Ytndknmchhhljcaa
open Go.RowKit
set_option linter.unusedVariables false

theorem peek_nil (a : Option Addr) (c : Nat) (t : Int) (w : World) :
    Calls Try.prog 152 #[.slice a 0 c, .int .u8 t] w fun e w' => e = .returned (.bool false) ∧ w = w' := by
  go_enter Try.func152, Try.ntmps152
  go_wp2
  go_ret
  exact ⟨rfl, rfl⟩
theorem peek_cons (a : Option Addr) (n c : Nat) (x t : Int) (r : List Int) (B : Nat) (w : World) (hn : r.length + 1 = n) (hb : BIn w B a (x :: r)) :
    Calls Try.prog 152 #[.slice a n c, .int .u8 t] w fun e w' => e = .returned (.bool (x == t)) ∧ w = w' := by
  obtain ⟨b, o, rfl, _, hc⟩ := hb (by simp)
  have e0 : w.cell? ⟨b, o, none⟩ = some (.int .u8 x) := hc 0 (by simp)
  have i0 : (0 : Int) < (n : Int) := by omega
  have i1 : ((n : Int) == 0) = false := by simp; omega
  have i2 : 0 < n := by omega
  clear hc hb hn
  go_enter Try.func152, Try.ntmps152
  go_wp2
  go_ret
  exact ⟨rfl, rfl⟩

/-- Is the first byte that tag? -/
def isTag (xs : List Int) (t : Int) : Bool := match xs with | x :: _ => x == t | [] => false

theorem peek_any (a : Option Addr) (n c : Nat) (xs : List Int) (t : Int) (B : Nat) (w : World) (hn : xs.length = n) (hb : BIn w B a xs) :
    Calls Try.prog 152 #[.slice a n c, .int .u8 t] w fun e w' => e = .returned (.bool (isTag xs t)) ∧ w = w' := by
  cases xs with
  | nil => simp at hn; subst hn; exact peek_nil a c t w
  | cons x r => exact peek_cons a n c x t r B w (by simpa using hn) hb

/-- What ReadOptionalASN1 leaves. -/
def OptPost (B g go gp : Nat) (xs : List Int) (tag : Int) (w : World) (e : Ending) (w' : World) : Prop :=
  ∃ (ok : Bool) (n1 n2 : Nat) (y1 y2 : List Int), e = .returned (.bool ok) ∧ Fr [g, go, gp] w w' ∧ SlB w' B g 82 n1 y1 ∧ SlB w' B go 82 n2 y2 ∧ Blk w' gp 4 #[.bool (isTag xs tag)] ∧ n1 ≤ 4194304000 ∧ n2 ≤ 4194304000 ∧
    (isTag xs tag = false → ok = true ∧ y1 = xs) ∧ (isTag xs tag = true → (firstOf xs tag).isSome = ok ∧ ∀ out rest, firstOf xs tag = some (out, rest) → y1 = rest ∧ y2 = out)

set_option maxRecDepth 100000 in
set_option maxHeartbeats 800000 in
theorem readOpt_any (g go gp : Nat) (n : Nat) (xs : List Int) (tag : Int) (pv : Bool) (B : Nat) (w : World)
    (hs : SlB w B g 82 n xs) (ho : Has w B go 82) (hp : Blk w gp 4 #[.bool pv]) (h1 : g ≠ go) (h2 : g ≠ gp) (h3 : go ≠ gp) (hB : B ≤ g) (hBo : B ≤ go) (hBp : B ≤ gp) (hl : Lim n) :
    Calls Try.prog 138 #[.pointer (some ⟨g, 0, none⟩), .pointer (some ⟨go, 0, none⟩), .pointer (some ⟨gp, 0, none⟩), .int .u8 tag] w (OptPost B g go gp xs tag w) := by
  obtain ⟨a, c, g1, g2, g3, g4, g5, g6⟩ := id hs
  have g0 := g1.one
  have p0 := hp.one
  have pf := hp.frozen 0
  have P := Lib.hid (peek_any a n c xs tag B w g4 g5)
  have Hlen := Lib.hid g4
  have Hs := Lib.hid hs
  have Ho := Lib.hid ho
  have Hp := Lib.hid hp
  clear hs ho hp g1 g4 g5 g6
  cases hi : isTag xs tag with
  | false =>
    have Hi := Lib.hid hi
    clear hi
    go_enter Try.func138, Try.ntmps138
    go_wp2_with fail
    refine P.out.mono ?_
    rw [Hi.out]
    rintro e w1 ⟨rfl, rfl⟩
    go_wp2
    go_ret
    have F : Fr [gp] w (w.setCell ⟨gp, 0, none⟩ (.bool false)) := (Fr.refl [gp] w).set_ (.inl (by simp)) _
    obtain ⟨m, ys, o1, o2⟩ := Ho.out
    refine ⟨true, n, m, xs, ys, rfl, F.mono (by simp), Hs.out.fr F (by simp; omega) (by simp; omega), o1.fr F (by simp; omega) (by simp; omega), ?_, hl.out, o2.out, fun _ => ⟨rfl, rfl⟩, fun h => by rw [Hi.out] at h; cases h⟩
    rw [Hi.out]
    exact Hp.out.set_ 0 _
  | true =>
    have Hi := Lib.hid hi
    clear hi
    go_enter Try.func138, Try.ntmps138
    go_wp2_with fail
    refine P.out.mono ?_
    rw [Hi.out]
    rintro e w1 ⟨rfl, rfl⟩
    go_wp2_with fail
    have F : Fr [gp] w (w.setCell ⟨gp, 0, none⟩ (.bool true)) := (Fr.refl [gp] w).set_ (.inl (by simp)) _
    have s1 := Hs.out.fr F (by simp; omega) (by simp; omega)
    have s2 := Ho.out.fr F (by simp; omega) (by simp; omega)
    have s3 : Blk (w.setCell ⟨gp, 0, none⟩ (.bool true)) gp 4 #[.bool true] := Hp.out.set_ 0 _
    generalize w.setCell ⟨gp, 0, none⟩ (.bool true) = w2 at *
    refine (readASN1t_any g go n xs tag B w2 s1 s2 h1 hB hBo hl).mono ?_
    intro e w3 hq
    have hlen := Hlen.out
    have hl' := hl.out
    obtain ⟨ok, n1, n2, y1, y2, rfl, f, t1, t2, l1, l2, _, k1, k2⟩ := asn_key hq (by omega)
    have K := Lib.hid (show OptPost B g go gp xs tag w (.returned (.bool ok)) w3 from
      ⟨ok, n1, n2, y1, y2, rfl, (F.mono (S' := [g, go, gp]) (by simp)).trans f (by simp), t1, t2, by rw [Hi.out]; exact f.blk s3 (by simp; omega), l1, l2, (fun h => by rw [Hi.out] at h; cases h), fun _ => ⟨k1, k2⟩⟩)
    clear hq k1 k2 t1 t2 f s1 s2 s3 F hlen hl'
    cases ok
    · go_wp2
      go_ret
      exact K.out
    · go_wp2
      go_ret
      exact K.out
end Go.Proofs.Ytndknmchhhljcaa
