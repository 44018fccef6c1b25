/- The contract of the reference's Build. -/
import Derived.Test.YtdnepnnkpaoaaaaSBRun
namespace Go.Proofs.Ytdnepnnkpaoaaaa
open Go.RowKit
set_option linter.unusedVariables false

/-- What the reference's Build leaves. -/
def SBuilt (w : World) (s : PB) (e : Ending) (w' : World) : Prop := Fr [] w w' ∧
  ((s.failed = false ∧ s.wrong = false ∧ ∃ a c, e = .returned (.tuple #[.slice a s.out.length c, .bool true, .bool true]) ∧ s.out.length ≤ c ∧ BIn w' w'.heap.size a s.out) ∨
   ((s.failed = true ∨ s.wrong = true) ∧ e = .returned (.tuple #[.slice none 0 0, .bool false, .bool (!s.wrong)])))

set_option maxRecDepth 100000 in
set_option maxHeartbeats 1600000 in
theorem specBuild (a : Option Addr) (n c : Nat) (its : List It) (w : World) (hn : its.length = n) (hi : ItsIn w w.heap.size a its) (hr : RightP its) :
    Calls Try.prog 13 #[.slice a n c] w (SBuilt w (runP PB.new its)) := by
  obtain ⟨hok, hc⟩ := hr
  have hMx : Mx = 2000000 := rfl
  obtain ⟨w1, hw1⟩ : ∃ w1, w1 = w.alloc (.cells #[.slice none 0 0, .int .i64 0, .bool false, .bool false] 55) := ⟨_, rfl⟩
  have F1 : Fr [] w w1 := by rw [hw1]; exact (Fr.refl [] w).alloc _
  have B1 : SB w1 w.heap.size w.heap.size PB.new none := by rw [hw1]; exact ⟨_, Blk.new _ _ _, OwnB.nil _ _ _, rfl⟩
  have S := Lib.hid (srun (costs its + 1) w.heap.size w.heap.size PB.new none w1 its a n c w.heap.size 12 false (by omega) B1 (hi.keep (F1.cells (Nat.le_refl _) (by simp))) hn hok (by have : PB.new.out.length = 0 := rfl; omega) (Nat.le_refl _) (Nat.le_refl _) (Nat.le_refl _) F1.size)
  have HF1 := Lib.hid F1
  have HW1 := Lib.hid hw1
  obtain ⟨I, hI⟩ : ∃ I, I = runP PB.new its := ⟨_, rfl⟩
  rw [← hI] at S ⊢
  clear hn hi hok hc F1 B1 hI hw1 hMx
  obtain ⟨q, hq⟩ : ∃ q, q = w.heap.size := ⟨_, rfl⟩
  rw [← hq] at S
  have Hq := Lib.hid hq
  clear hq
  go_enter Try.func13, Try.ntmps13
  go_wp2_with fail
  rw [← HW1.out, ← Hq.out]
  refine S.out.mono ?_
  rintro e w2 ⟨rfl, rb2, T2, F2, R2⟩
  have F02 := Lib.hid (show Fr [] w w2 from HF1.out.trans F2 (fun i hi => by right; simp at hi; have := Hq.out; omega))
  obtain ⟨⟨ai, ci, i0, i1, i2, i3, i4⟩, _, i5, i6, i7⟩ := T2.cells
  have HI3 := Lib.hid i3
  have HI1 := Lib.hid i1
  obtain ⟨L, hL⟩ : ∃ L, L = I.out.length := ⟨_, rfl⟩
  rw [← hL] at i0
  have HL := Lib.hid hL
  clear T2 F2 R2 i1 i2 i3 i4 i7 hL
  obtain ⟨f, hf⟩ : ∃ f, f = I.failed := ⟨_, rfl⟩
  obtain ⟨r, hr⟩ : ∃ r, r = I.wrong := ⟨_, rfl⟩
  rw [← hf] at i5
  rw [← hr] at i6
  have Hf := Lib.hid hf
  have Hr := Lib.hid hr
  clear hf hr
  cases f
  · cases r
    · go_wp2_with fail
      go_ret3
      refine ⟨F02.out, .inl ⟨Hf.out.symm, Hr.out.symm, ai, ci, by rw [HL.out]; rfl, HI1.out, HI3.out.bin rfl⟩⟩
    · go_wp2_with fail
      go_quiet (fail)
      go_wp2
      go_ret3
      exact ⟨F02.out.drewN nq, .inr ⟨.inr Hr.out.symm, by rw [← Hr.out]; rfl⟩⟩
  · cases r
    all_goals (
      go_wp2_with fail
      go_quiet (fail)
      go_wp2
      go_ret3
      exact ⟨F02.out.drewN nq, .inr ⟨.inl Hf.out.symm, by rw [← Hr.out]; rfl⟩⟩)
end Go.Proofs.Ytdnepnnkpaoaaaa
