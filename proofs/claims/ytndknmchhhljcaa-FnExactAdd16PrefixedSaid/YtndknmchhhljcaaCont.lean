/- The contracts of (*Builder).callContinuation, and of the closure that it defers, where the continuation returns. -/
import Derived.Test.YtndknmchhhljcaaAddNum
import Derived.Defers
import Derived.Recover
namespace Go.Proofs.Ytndknmchhhljcaa
open Go.RowKit
set_option linter.unusedVariables false

/-- The deferred closure, where nothing panics: the flag is struck. -/
theorem cont_idle (gb g gq : Nat) (w : World) (cb : w.cell? ⟨gb, 0, none⟩ = some (.pointer (some ⟨g, 0, none⟩))) (c7 : w.cell? ⟨g, 7, none⟩ = some (.pointer (some ⟨gq, 0, none⟩))) (hq : Blk w gq 4 #[.bool true]) :
    CallsD Try.prog 154 #[.pointer (some ⟨gb, 0, none⟩)] .returning w fun e u' w' => e = .returned (.tuple #[]) ∧ u' = .returning ∧ w' = w.setCell ⟨gq, 0, none⟩ (.bool false) := by
  have q0 := hq.one
  have qf := hq.frozen 0
  clear hq
  refine callsD_of_wpS Try.func154 rfl fun c₀ cs hu => ?_
  apply wpS_seq
  apply wpS_region
  simp [wpOpsS, go_sem, recoverD, hu, Try.ntmps154, Exit.thenS, cb, c7, q0, qf]
  apply wpS_seq
  apply wpS_region
  simp [wpOpsS, go_sem, recoverD, hu, Exit.thenS]
  apply wpS_seq
  apply wpS_seq
  apply wpS_region
  simp [wpOpsS, go_sem, recoverD, hu, Exit.thenS]
  refine wpS_cond (t := true) (by simp [Act.eval, Array.replicate]) ?_
  simp only [if_true]
  refine wpS_of_wp (wp_ret ?_)
  cases c₀
  simp_all [Exit.thenS, bodyPostS, results, Try.results154]

/-- callContinuation on a builder whose flag is not set: the flag is set, the continuation runs and returns, the flag is struck. -/
def ContPost (gq : Nat) (S : List Nat) (Q : World → World → Prop) (w : World) (e : Ending) (w' : World) : Prop :=
  e = .returned (.tuple #[]) ∧ ∃ w1 w2, Fr [gq] w w1 ∧ Blk w1 gq 4 #[.bool true] ∧ Fr S w1 w2 ∧ Q w1 w2 ∧ w' = w2.setCell ⟨gq, 0, none⟩ (.bool false) ∧ Blk w2 gq 4 #[.bool true]

set_option maxRecDepth 100000 in
set_option maxHeartbeats 800000 in
theorem cont_first (g gq gc K p : Nat) (S : List Nat) (Q : World → World → Prop) (w : World) (c7 : w.cell? ⟨g, 7, none⟩ = some (.pointer (some ⟨gq, 0, none⟩))) (hgq : g ≠ gq) (hq : Blk w gq 4 #[.bool false])
    (hS : ∀ i ∈ S, i < w.heap.size) (hSq : gq ∉ S) (hK : ∀ args W, (callFunc K args).run Try.prog W = .ok (.enter K args) W)
    (hf : ∀ w1, Fr [gq] w w1 → w.heap.size < w1.heap.size → Calls Try.prog K #[.pointer (some ⟨gc, 0, none⟩), .pointer (some ⟨p, 0, none⟩)] w1 fun e w2 => e = .returned (.tuple #[]) ∧ Fr S w1 w2 ∧ Q w1 w2)
    (hQ : ∀ w1 w2, Q w1 w2 → w2.cell? ⟨g, 7, none⟩ = some (.pointer (some ⟨gq, 0, none⟩))) :
    Calls Try.prog 146 #[.pointer (some ⟨g, 0, none⟩), .func (.func K) #[] #[.pointer (some ⟨p, 0, none⟩)], .pointer (some ⟨gc, 0, none⟩)] w (ContPost gq S Q w) := by
  have hmf : ∀ (fn : Fn) (first cap : Array Value) (w : World), (Instr.makeFunc fn first cap).run Try.prog w = .ok (.func fn first cap) w := fun _ _ _ _ => rfl
  have q0 := hq.one
  have qf := hq.frozen 0
  have Hf := Lib.hid hf
  have HQ := Lib.hid hQ
  have hgl := World.block_lt_of_cell? w _ c7
  have hql := hq.lt
  have Hq := Lib.hid hq
  clear hf hQ hq
  go_enter_defers Try.func146, Try.ntmps146
  go_wp2_with fail
  obtain ⟨w1, hw1⟩ : ∃ w1, w1 = (w.setCell ⟨gq, 0, none⟩ (.bool true)).alloc (.cells #[.pointer (some ⟨g, 0, none⟩)] 71) := ⟨_, rfl⟩
  have F1 : Fr [gq] w w1 := by rw [hw1]; exact ((Fr.refl [gq] w).set_ (.inl (by simp)) _).alloc _
  have q1 : Blk w1 gq 4 #[.bool true] := by rw [hw1]; exact (Hq.out.set_ 0 _).alloc _
  have b1 : Blk w1 w.heap.size 71 #[.pointer (some ⟨g, 0, none⟩)] := by rw [hw1]; exact Blk.new' (by simp) _ _
  have l1 : w.heap.size < w1.heap.size := b1.lt
  rw [← hw1]
  clear hw1
  refine (Hf.out w1 F1 l1).mono ?_
  rintro e w2 ⟨rfl, f2, h2⟩
  have g7 := HQ.out w1 w2 h2
  have b2 := (f2.blk b1 (fun h => absurd (hS _ h) (by omega))).one
  have q2 := f2.blk q1 hSq
  go_wp2
  refine leaves_cons (f := 154) (args := #[.pointer (some ⟨w.heap.size, 0, none⟩)]) (by simp) (by simp [go_sem]) ?_
  refine (cont_idle w.heap.size g gq w2 b2 g7 q2).mono ?_
  rintro e u' w'' ⟨rfl, rfl, rfl⟩
  exact ⟨_, results_none rfl _ _ _, rfl, w1, w2, F1, q1, f2, h2, rfl, q2⟩
end Go.Proofs.Ytndknmchhhljcaa
