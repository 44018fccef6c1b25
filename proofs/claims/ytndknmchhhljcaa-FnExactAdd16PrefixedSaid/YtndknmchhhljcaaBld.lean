/- A Builder in memory, and the contracts of (*Builder).add, Bytes, and of the thin package's bytesOf (builders that are not fixed and have no child). -/
import Derived.Test.YtndknmchhhljcaaSpec0
import Derived.Test.YtndknmchhhljcaaBig
import Derived.Outline
import Derived.Deep.DeepMust
import Derived.BigQuiet
import Derived.Deep.QuietTactic
namespace Go.Proofs.Ytndknmchhhljcaa
open Go.RowKit
set_option linter.unusedVariables false

/-- The cells of a builder that is not fixed, and has no error and no child. -/
abbrev bCs (v : Value) (off pl : Int) (pa : Bool) (ic : Value) : Array Value := #[.nilIface, v, .bool false, .pointer none, .int .i64 off, .int .i64 pl, .bool pa, ic]

/-- A builder that is not fixed, and has no error and no child: its bytes, which lie in a row of their own (blocks from base on). -/
def Bld (w : World) (base g : Nat) (xs : List Int) (off pl : Int) (pa : Bool) (ic : Value) (rb : Option Nat) : Prop :=
  ∃ v, Blk w g 74 (bCs v off pl pa ic) ∧ OwnB w base 5 v xs ∧ v.ownBlock = rb

/-- A row's block is none of another type's. -/
theorem OwnB.ne_blk {w : World} {base e g : Nat} {v : Value} {xs : List Int} {t : TypeId} {cs : Array Value} (h : OwnB w base e v xs) (hg : Blk w g t cs) (hne : e ≠ t) : v.ownBlock ≠ some g := by
  rcases h.2 with ⟨rfl, _⟩ | ⟨g', cap, cur, rfl, _, hh, _⟩
  · simp [Value.ownBlock]
  · intro he
    have : g' = g := by simpa [Value.ownBlock] using he
    subst this
    unfold Blk at hg
    rw [hh] at hg
    injection hg with hg
    injection hg with _ ht
    exact hne ht
theorem OwnB.lt {w : World} {base e : Nat} {v : Value} {xs : List Int} (h : OwnB w base e v xs) : ∀ k, v.ownBlock = some k → base ≤ k ∧ k < w.heap.size := World.ownsRow.lt h

/-- What 'add' leaves. -/
def AddPost (base g : Nat) (xs : List Int) (off pl : Int) (pa : Bool) (ic : Value) (rb : Option Nat) (w : World) (e : Ending) (w' : World) : Prop :=
  e = .returned (.tuple #[]) ∧ ∃ rb', Bld w' base g xs off pl pa ic rb' ∧ Fr (g :: rb.toList) w w' ∧ (rb' = rb ∨ ∃ k, rb' = some k ∧ w.heap.size ≤ k)

set_option maxRecDepth 100000 in
set_option maxHeartbeats 800000 in
theorem add_any (base g : Nat) (xs ys : List Int) (off pl : Int) (pa : Bool) (ic : Value) (rb : Option Nat) (a : Option Addr) (n c : Nat) (w : World)
    (hg : Bld w base g xs off pl pa ic rb) (hn : ys.length = n) (hy : BIn w w.heap.size a ys) (hl : xs.length + n ≤ 4194304000) (hb : base ≤ w.heap.size) :
    Calls Try.prog 123 #[.pointer (some ⟨g, 0, none⟩), .slice a n c] w (AddPost base g (xs ++ ys) off pl pa ic rb w) := by
  obtain ⟨v, hg, hown, rfl⟩ := hg
  obtain ⟨i0, hi0, hz0, hz1, hz2⟩ := info_parts u8_info
  obtain ⟨av, cv, rfl, _, hcv, _, _⟩ := hown.form
  have c0 : w.cell? ⟨g, 0, none⟩ = some .nilIface := hg.cell 0
  have c1 : w.cell? ⟨g, 1, none⟩ = some (.slice av xs.length cv) := hg.cell 1
  have c2 : w.cell? ⟨g, 2, none⟩ = some (.bool false) := hg.cell 2
  have c3 : w.cell? ⟨g, 3, none⟩ = some (.pointer none) := hg.cell 3
  have hne := hown.ne_blk hg (by decide)
  have Hn := Lib.hid hn
  have Hg := Lib.hid hg
  have Ho := Lib.hid hown
  have Hne := Lib.hid hne
  have hgl := hg.lt
  obtain ⟨m, hm⟩ : ∃ m, m = xs.length := ⟨_, rfl⟩
  rw [← hm] at c1 hl
  have Hm := Lib.hid hm
  clear hg hn hown hne hm
  have hx63 : (m : Int) + n ≤ 4194304000 := by omega
  have hk := Lib.hid (fun (w1 w' : World) (h1 : w1.heap = w.heap) (hg1 : w1.grownBy w' (Value.slice av m cv).ownBlock) => (show Blk w' g 74 (bCs (.slice av m cv) off pl pa ic) from (hg1.block g (by rw [h1]; exact hgl) (fun e => by have := Hne.out; rw [← Hm.out] at this; exact this e.symm)).trans (by rw [h1, Hm.out]; exact Hg.out)))
  have C1 := Lib.hid (show xs.length + ys.length ≤ 70368744177664 by have := Hn.out; have := Hm.out; omega)
  go_enter Try.func123, Try.ntmps123
  go_wp2_with fail
  go_quiet (fail)
  go_wp2_with (at_builtin; go_must (refine wpList_append_bytes _ rfl (.tmp 58) (.tmp 59) _ rfl base 5 i0 _ Try.underlying22 hi0 hz0 hz1 hz2 rfl (.slice av m cv) xs rfl (show OwnB (w.drewN nq) base 5 (.slice av m cv) xs by rw [Hm.out]; exact Ho.out) w.heap.size a n c ys Hn.out rfl (show BIn (w.drewN nq) w.heap.size a ys from hy) C1.out (show base ≤ (w.drewN nq).heap.size from hb) ?_; intro A' c' w1 hown hg1 hat; have B1 := Lib.hid (hk.out (w.drewN nq) _ rfl hg1); have b1 : w1.cell? ⟨g, 1, none⟩ = some (.slice av m cv) := B1.out.cell 1; have b2 := B1.out.frozen 1))
  go_end0
  have hb1 : Fr (g :: (Value.slice av m cv).ownBlock.toList) w w1 := ((Fr.refl _ w).drewN nq).grown hg1 (fun k hk => .inl (by simp [hk]))
  have hsz : w.heap.size ≤ w1.heap.size := hb1.size
  have hne' := hown.ne_blk B1.out (by decide)
  rw [Hm.out] at hat hb1
  refine ⟨rfl, _, ⟨_, B1.out.set_ 1 _, ?_, rfl⟩, hb1.set_ (.inl (by simp)) _, ?_⟩
  · refine hown.fr (S := [g]) ((Fr.refl [g] w1).set_ (.inl (by simp)) _) (fun k' hk' e => ?_)
    rw [List.mem_singleton] at e
    exact hne' (by rw [hk', e])
  · rcases hat with h | h
    · exact .inl h
    · exact .inr ⟨_, h, Nat.le_refl _⟩

/-- A slice of the call's own and 'true' are handed back. -/
def GotPost (w : World) (xs : List Int) (e : Ending) (w' : World) : Prop :=
  ∃ a c, e = .returned (.tuple #[.slice a xs.length c, .bool true]) ∧ xs.length ≤ c ∧ c ≤ maxLen ∧ BIn w' w'.heap.size a xs ∧ Below w.heap.size w w'

theorem bytes_ok (base g : Nat) (xs : List Int) (o : Nat) (pl : Int) (pa : Bool) (ic : Value) (w : World) (v : Value)
    (hg : Blk w g 74 (bCs v o pl pa ic)) (hown : OwnB w base 5 v xs) (ho : o ≤ xs.length) :
    Calls Try.prog 124 #[.pointer (some ⟨g, 0, none⟩)] w fun e w' => ∃ a c, e = .returned (.tuple #[.slice a (xs.length - o) c, .nilIface]) ∧ xs.length - o ≤ c ∧ c ≤ maxLen ∧ BIn w w.heap.size a (xs.drop o) ∧ ∃ k, w' = w.drewN k := by
  obtain ⟨av, cv, rfl, hc, hm, _, _⟩ := hown.form
  have c0 : w.cell? ⟨g, 0, none⟩ = some .nilIface := hg.cell 0
  have c1 : w.cell? ⟨g, 1, none⟩ = some (.slice av xs.length cv) := hg.cell 1
  have c4 : w.cell? ⟨g, 4, none⟩ = some (.int .i64 o) := hg.cell 4
  have B := Lib.hid ((hown.bin rfl).cut (c := cv) (k := o) (by omega))
  obtain ⟨m, hm'⟩ : ∃ m, m = xs.length := ⟨_, rfl⟩
  rw [← hm'] at c1 hc ho ⊢
  have sl := fun w => sl_from av m cv o o rfl ho w
  clear hg hown hm'
  go_enter Try.func124, Try.ntmps124
  go_wp2_with fail
  go_quiet (fail)
  go_wp2
  go_ret2
  exact ⟨_, _, rfl, by omega, by omega, B.out, nq, rfl⟩

set_option maxRecDepth 100000 in
set_option maxHeartbeats 800000 in
theorem bytesOf_ok (base g : Nat) (xs : List Int) (pl : Int) (pa : Bool) (ic : Value) (rb : Option Nat) (w : World)
    (hg : Bld w base g xs 0 pl pa ic rb) (hl : xs.length ≤ 4194304000) :
    Calls Try.prog 79 #[.pointer (some ⟨g, 0, none⟩)] w (GotPost w xs) := by
  obtain ⟨v, hg, hown, _⟩ := hg
  have H := Lib.hid (bytes_ok base g xs 0 pl pa ic w v hg hown (by omega))
  obtain ⟨n, hn⟩ : ∃ n, n = xs.length := ⟨_, rfl⟩
  have Hn := Lib.hid hn
  rw [← hn] at hl
  simp only [List.drop_zero, Nat.sub_zero, ← hn] at H
  clear hg hown hn
  go_enter Try.func79, Try.ntmps79
  go_wp2_with fail
  refine H.out.mono ?_
  rintro e w1 ⟨a1, c1, rfl, h1, h2, h3, k, hw1⟩
  have h3' : BIn w1 w1.heap.size a1 xs := by rw [hw1]; exact h3
  have F1 : Fr [] w w1 := by rw [hw1]; exact (Fr.refl [] w).drewN k
  clear hw1 h3
  go_wp2_with fail
  have C1 := Lib.hid (copied_any a1 n c1 xs w1.drew Hn.out.symm h3'.drew hl)
  go_region_held3 (fun w' => True) (exact trivial) (first | (go_at_call 78; (with_reducible refine C1.out.mono ?_); rintro e w4 ⟨a5, c5, rfl, r1, r2, r3, r4, r5, r6⟩))
  go_wp2
  go_ret2
  have hn := Hn.out
  subst hn
  exact ⟨a5, c5, rfl, r1, r2, r3, ((F1.drew).trans (Fr.of_below r5 []) (by simp)).below (by simp) (Nat.le_refl _)⟩
end Go.Proofs.Ytndknmchhhljcaa
