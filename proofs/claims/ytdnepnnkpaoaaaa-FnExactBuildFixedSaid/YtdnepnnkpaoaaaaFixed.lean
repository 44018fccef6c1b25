/- What BuildFixed builds: the same behind what its buffer holds, where there is room; an error where numbers and bytes have none. -/
import Derived.Test.YtdnepnnkpaoaaaaBuildF
import Derived.Test.YtdnepnnkpaoaaaaWLaw
namespace Go.Proofs.Ytdnepnnkpaoaaaa
open Go.RowKit
set_option linter.unusedVariables false

theorem BuiltP.ends2 {w : World} {s : PB} {e : Ending} {w' : World} (h : BuiltP w s e w') : ∃ a n c b, e = .returned (.tuple #[.slice a n c, .bool b]) := by
  obtain ⟨a, n, c, b, h, _⟩ := h.ends
  exact ⟨a, n, c, b, h⟩

/-- Where there is room. -/
theorem iBuildFixed_ok (a : Option Addr) (n c room : Nat) (xs : List Int) (A : Option Addr) (m C : Nat) (its : List It) (w : World) (hn : xs.length = n) (hb : BIn w w.heap.size a xs) (hl : n + room ≤ 10000)
    (hm : its.length = m) (hi : ItsIn w w.heap.size A its) (hok : okIs false 12 its = true) (hc : costs its ≤ Mx) (ht : noTBs its = true) (hf : (runP PB.new its).failed = false) (hr : (runP PB.new its).out.length ≤ room) :
    Calls Try.prog 14 #[.slice a n c, .int .i64 room, .slice A m C] w (GotPost w (xs ++ (runP PB.new its).out)) := by
  have hw := run_nw PB.new its ht rfl
  have hnew : PB.new.out.length = 0 := rfl
  have key : Calls Try.prog 14 #[.slice a n c, .int .i64 room, .slice A m C] w (BuiltP w { runP PB.new its with out := xs ++ (runP PB.new its).out }) := by
    refine iBuildFixed a n c room xs A m C w _ hn hb hl (fun e w' h => h.ends2) fun W hB hF => ?_
    refine (sgood 12 (Kd.room w.heap.size (n + room) hl) w.heap.size (w.heap.size + 1) 0 0 false xs PB.new (.pointer none) (some w.heap.size) false w.heap.size W its A m C
      ⟨by rw [show PB.new.out = [] from rfl, List.append_nil]; exact hB, .inl ⟨rfl, rfl⟩, Nat.zero_le _, hF.size, Nat.zero_le _, rfl, rfl, Nat.le_refl _, by omega⟩ (hF.its (Nat.le_refl _) (by simp) hi) hm hok hw
      (.inr ⟨by simp [Kd.room], by show n + room ≤ 16000000; omega, ht, hf, by rw [hn]; show n + _ ≤ n + room; omega⟩) (by omega) hc).mono fun e w' ho => ?_
    have he := ho.ret rfl
    refine ⟨he, ?_⟩
    rw [he] at ho
    refine bytesOf_res _ w.heap.size (w.heap.size + 1) xs (runP PB.new its) (.pointer none) _ 12 Mx w W w' ho (by omega) fun w2 hf2 => ?_
    have := (hF.mono (S' := [w.heap.size + 1, w.heap.size]) (by simp)).trans (hf2.mono (S' := [w.heap.size + 1, w.heap.size]) (by intro i hi; simpa [fS, icB] using hi)) (fun i hi => .inl hi)
    exact this.below (by simp) (Nat.le_refl _)
  refine key.mono fun e w' h => ?_
  unfold BuiltP at h
  simp only [hf, Bool.false_eq_true, if_false] at h
  exact h
end Go.Proofs.Ytdnepnnkpaoaaaa
