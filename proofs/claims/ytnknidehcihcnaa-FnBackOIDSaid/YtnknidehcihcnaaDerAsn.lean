/- The contract of (*String).ReadASN1: the contents of the first element, if it is of that tag. -/
import Derived.Test.YtnknidehcihcnaaDerAny
namespace Go.Proofs.Ytnknidehcihcnaa
open Go.RowKit
set_option linter.unusedVariables false

/-- A box holds some slice of bytes. -/
def Has (w : World) (B g : Nat) (t : TypeId) : Prop := ∃ n xs, SlB w B g t n xs ∧ Lim n
theorem Has.fr {S : List Nat} {w w' : World} {B g : Nat} {t : TypeId} (h : Has w B g t) (hf : Fr S w w') (hg : g ∉ S) (hs : ∀ i ∈ S, B ≤ i) : Has w' B g t := by
  obtain ⟨n, xs, h1, h2⟩ := h
  exact ⟨n, xs, h1.fr hf hg hs, h2⟩
theorem SlB.has {w : World} {B g n : Nat} {t : TypeId} {xs : List Int} (h : SlB w B g t n xs) (hl : Lim n) : Has w B g t := ⟨n, xs, h, hl⟩

def AsnYes (B g go : Nat) (out rest : List Int) (w : World) (e : Ending) (w' : World) : Prop :=
  e = .returned (.bool true) ∧ Fr [g, go] w w' ∧ SlB w' B g 79 rest.length rest ∧ SlB w' B go 79 out.length out
def AsnNo (B g go : Nat) (w : World) (e : Ending) (w' : World) : Prop :=
  e = .returned (.bool false) ∧ Fr [g, go] w w' ∧ Has w' B g 79 ∧ Has w' B go 79

/-- The two ends of a reading by a tag. -/
def AsnPost (B g go : Nat) (xs : List Int) (tag : Int) (w : World) (e : Ending) (w' : World) : Prop :=
  match firstOf xs tag with
  | some (out, rest) => AsnYes B g go out rest w e w'
  | none => AsnNo B g go w e w'

set_option maxHeartbeats 800000 in
theorem readASN1t_any (g go : Nat) (n : Nat) (xs : List Int) (tag : Int) (B : Nat) (w : World)
    (hs : SlB w B g 79 n xs) (ho : Has w B go 79) (h1 : g ≠ go) (hB : B ≤ g) (hBo : B ≤ go) (hl : Lim n) :
    Calls Try.prog 59 #[.pointer (some ⟨g, 0, none⟩), .pointer (some ⟨go, 0, none⟩), .int .u8 tag] w (AsnPost B g go xs tag w) := by
  obtain ⟨m, ys, ⟨a2, c2, o1, o2, o3, o4, o5, o6⟩, o7⟩ := ho
  have hg1 : g < w.heap.size := by obtain ⟨a, c, k, _⟩ := hs; exact k.lt
  have hg2 : go < w.heap.size := o1.lt
  obtain ⟨w1, hw1⟩ : ∃ w1, w1 = w.alloc (.cells #[.int .u8 0] 73) := ⟨_, rfl⟩
  have q1 : Fr [] w w1 := by rw [hw1]; exact (Fr.refl _ w).alloc _
  have q2 : Blk w1 w.heap.size 73 #[.int .u8 0] := by rw [hw1]; exact Blk.new _ _ _
  have hBs : B ≤ w.heap.size := by omega
  have H := Lib.hid (readAnyASN1_any g go w.heap.size (.slice a2 m c2) n xs 0 B w1 (hs.fr q1 (by simp) (by simp)) (q1.blk o1 (by simp)) q2 h1 (by omega) (by omega) hB hBo hBs hl)
  have Hlen := Lib.hid hs.len
  have F : ∀ w', Fr [g, go, w.heap.size] w1 w' → Fr [g, go] w w' := fun w' f => (q1.mono (S' := [g, go]) (by simp)).trans f (by simp)
  have P1 := Lib.hid (show ∀ (w' : World), DerNo B g go w.heap.size 79 n xs (.slice a2 m c2) w1 (.returned (.bool false)) w' → first xs = none → AsnPost B g go xs tag w (.returned (.bool false)) w' from by
    intro w' ⟨_, f1, f2, f3, _⟩ hf
    unfold AsnPost
    rw [firstOf_none hf]
    exact ⟨rfl, F _ f1, f2.has hl, (show SlB w' B go 79 m ys from ⟨a2, c2, f3, o2, o3, o4, (F _ f1).bin o5 (by simp; omega), o6⟩).has o7⟩)
  have P2 := Lib.hid (show ∀ (t : Int) (b k : Nat) (w' : World), first xs = some (t, b, k) → DerYes B g go w.heap.size 79 (n - k) (xs.drop k) (k - b) ((xs.take k).drop b) t w1 (.returned (.bool true)) w' → AsnPost B g go xs tag w (.returned (.bool (t == tag))) w' from by
    intro t b k w' hf ⟨_, f1, f2, f3, f4⟩
    unfold AsnPost
    rw [firstOf_some hf]
    have hb := first_bounds hf
    have hlen := Hlen.out
    by_cases ht : t = tag
    · rw [if_pos ht]
      refine ⟨by simp [ht], F _ f1, ?_, ?_⟩
      · rw [f2.len]; exact f2
      · rw [f3.len]; exact f3
    · rw [if_neg ht]
      have hl' := hl.out
      exact ⟨by simp [ht], F _ f1, f2.has (by unfold Lim; omega), f3.has (by unfold Lim; omega)⟩)
  clear hs o1 o5 q1 q2 hg1 hg2 F
  subst hw1
  go_enter Try.func59, Try.ntmps59
  go_wp2_with fail
  refine H.out.mono ?_
  intro e w' hp
  rcases hp with ⟨hf, hp⟩ | ⟨t, b, k, hf, hp⟩
  · obtain ⟨rfl, _⟩ := id hp
    have hp' := Lib.hid (P1.out w' hp hf)
    clear hf hp
    go_wp2
    go_ret
    exact hp'.out
  · obtain ⟨rfl, f1, _, _, f4⟩ := id hp
    have c0 := f4.one
    have hp' := Lib.hid (P2.out t b k w' hf hp)
    clear hf hp f1 f4
    by_cases ht : t = tag
    · subst ht
      have t1 : (t != t) = false := by simp
      go_wp2
      go_ret
      have := hp'.out
      simpa using this
    · have t1 : (t != tag) = true := by simp [ht]
      go_wp2
      go_ret
      have := hp'.out
      rwa [show (t == tag) = false by simp [ht]] at this
end Go.Proofs.Ytnknidehcihcnaa
