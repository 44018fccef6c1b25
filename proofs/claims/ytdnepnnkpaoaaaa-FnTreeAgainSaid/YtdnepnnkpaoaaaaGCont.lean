/- The contracts of (*Builder).callContinuation, and of the closure that it defers: the continuation returns, or panics with a BuildError. -/
import Derived.Test.YtdnepnnkpaoaaaaGFlush
import Derived.Defers
import Derived.Recover
namespace Go.Proofs.Ytdnepnnkpaoaaaa
open Go.RowKit
set_option linter.unusedVariables false

/-- The deferred closure, where nothing panics: the flag is struck. -/
theorem cont_idle (gb g gq : Nat) (w : World) (cb : w.cell? ⟨gb, 0, none⟩ = some (.pointer (some ⟨g, 0, none⟩))) (c7 : w.cell? ⟨g, 7, none⟩ = some (.pointer (some ⟨gq, 0, none⟩))) (hq : Blk w gq 4 #[.bool true]) :
    CallsD Try.prog 108 #[.pointer (some ⟨gb, 0, none⟩)] .returning w fun e u' w' => e = .returned (.tuple #[]) ∧ u' = .returning ∧ w' = w.setCell ⟨gq, 0, none⟩ (.bool false) := by
  have q0 := hq.one
  have qf := hq.frozen 0
  clear hq
  refine callsD_of_wpS Try.func108 rfl fun c₀ cs hu => ?_
  apply wpS_seq
  apply wpS_region
  simp [wpOpsS, go_sem, recoverD, hu, Try.ntmps108, Exit.thenS, cb, c7, q0, qf]
  apply wpS_seq
  apply wpS_region
  simp [wpOpsS, go_sem, recoverD, hu, Exit.thenS]
  apply wpS_seq
  apply wpS_seq
  apply wpS_region
  simp [wpOpsS, go_sem, recoverD, hu, Exit.thenS]
  refine wpS_cond (t := true) (by simp [Act.eval, Array.replicate]) ?_
  simp only [if_true]
  refine wpS_of_wp (wp_ret ?_)
  cases c₀
  simp_all [Exit.thenS, bodyPostS, results, Try.results108]

/-- The value of a panic with an error. -/
abbrev PV (t : TypeId) (u : Value) : Value := .iface 118 (.agg #[.iface t u])

set_option maxRecDepth 100000 in
set_option maxHeartbeats 800000 in
/-- The deferred closure, where the continuation panics with a BuildError: the flag is struck, the panic is recovered, the builder keeps the error. -/
theorem cont_caught (gb g gq : Nat) (t : TypeId) (u x : Value) (w : World) (cb : w.cell? ⟨gb, 0, none⟩ = some (.pointer (some ⟨g, 0, none⟩))) (c7 : w.cell? ⟨g, 7, none⟩ = some (.pointer (some ⟨gq, 0, none⟩))) (hq : Blk w gq 4 #[.bool true])
    (hbg : gb ≠ gq) (hgq : g ≠ gq) (c0 : w.cell? ⟨g, 0, none⟩ = some x) (f0 : w.frozen? ⟨g, 0, none⟩ = false) (hb : gb < w.heap.size) (hg : g < w.heap.size) :
    CallsD Try.prog 108 #[.pointer (some ⟨gb, 0, none⟩)] (.panicking [{ v := PV t u, recovered := false }]) w fun e u' w' => e = .returned (.tuple #[]) ∧ u' = .panicking [{ v := PV t u, recovered := true }] ∧
      w' = ((w.setCell ⟨gq, 0, none⟩ (.bool false)).setCell ⟨g, 0, none⟩ (.iface t u)).alloc (.cells #[.iface t u] 118) := by
  have q0 := hq.one
  have qf := hq.frozen 0
  clear hq
  refine callsD_of_wpS Try.func108 rfl fun c₀ cs hu => ?_
  apply wpS_seq
  apply wpS_region
  simp [wpOpsS, go_sem, recoverD, hu, Try.ntmps108, Exit.thenS, cb, c7, q0, qf]
  apply wpS_seq
  apply wpS_region
  simp [wpOpsS, go_sem, recoverD, hu, Exit.thenS]
  have hta : ∀ w, (Instr.typeAssert (PV t u) 20 118 true).run Try.prog w = .ok (.tuple #[.agg #[.iface t u], .bool true]) w := fun w => by kernel_rfl
  refine wpS_of_wp ?_
  simp only [Array.replicate_succ, Array.replicate_zero, List.push_toArray, List.append_toArray, List.nil_append, List.cons_append, List.setIfInBounds_toArray, List.set_cons_zero, List.set_cons_succ]
  obtain ⟨w1, hw1⟩ : ∃ w1, w1 = w.setCell ⟨gq, 0, none⟩ (.bool false) := ⟨_, rfl⟩
  have cb1 : w1.cell? ⟨gb, 0, none⟩ = some (.pointer (some ⟨g, 0, none⟩)) := by rw [hw1, World.cell?_setCell_other _ _ _ _ (by simp <;> omega)]; exact cb
  have c01 : w1.cell? ⟨g, 0, none⟩ = some x := by rw [hw1, World.cell?_setCell_other _ _ _ _ (by simp <;> omega)]; exact c0
  have f01 : w1.frozen? ⟨g, 0, none⟩ = false := by rw [hw1]; simpa [go_sem] using f0
  have hb1 : gb < w1.heap.size := by rw [hw1]; simpa using hb
  have hg1 : g < w1.heap.size := by rw [hw1]; simpa using hg
  rw [← hw1]
  have Hw1 := Lib.hid hw1
  have Hu := Lib.hid hu
  clear hw1 cb c7 c0 f0 q0 qf hu
  go_wp2_with fail
  simp [bodyPostS, results, Try.results108]
/-- Ended by a panic with an error. -/
def Panics (e : Ending) : Prop := ∃ t u, e = .panicked [{ v := PV t u, recovered := false }]
/-- callContinuation on a builder whose flag is not set: the flag is set, the continuation runs; where it panics with an error the builder keeps the error; the flag is struck. -/
def ContPost (g gq : Nat) (Qr Qp : World → World → Prop) (w : World) (e : Ending) (w' : World) : Prop :=
  e = .returned (.tuple #[]) ∧ ∃ w1 w2, Fr [gq] w w1 ∧ w.heap.size < w1.heap.size ∧ Blk w1 gq 4 #[.bool true] ∧ Blk w2 gq 4 #[.bool true] ∧
    ((Qr w1 w2 ∧ w' = w2.setCell ⟨gq, 0, none⟩ (.bool false)) ∨ (Qp w1 w2 ∧ ∃ t u cs, w' = ((w2.setCell ⟨gq, 0, none⟩ (.bool false)).setCell ⟨g, 0, none⟩ (.iface t u)).alloc (.cells cs 118)))

set_option maxRecDepth 100000 in
set_option maxHeartbeats 800000 in
theorem cont_first (g gq gc K p : Nat) (Qr Qp : World → World → Prop) (w : World) (c7 : w.cell? ⟨g, 7, none⟩ = some (.pointer (some ⟨gq, 0, none⟩))) (hgq : g ≠ gq) (hq : Blk w gq 4 #[.bool false])
    (hK : ∀ args W, (callFunc K args).run Try.prog W = .ok (.enter K args) W)
    (hf : ∀ w1, Fr [gq] w w1 → w.heap.size < w1.heap.size → Blk w1 gq 4 #[.bool true] → Calls Try.prog K #[.pointer (some ⟨gc, 0, none⟩), .pointer (some ⟨p, 0, none⟩)] w1 fun e w2 => (e = .returned (.tuple #[]) ∧ Qr w1 w2) ∨ (Panics e ∧ Qp w1 w2))
    (hQ : ∀ w1 w2, Fr [gq] w w1 → w.heap.size < w1.heap.size → Blk w1 gq 4 #[.bool true] → Qr w1 w2 ∨ Qp w1 w2 → w2.cell? ⟨g, 7, none⟩ = some (.pointer (some ⟨gq, 0, none⟩)) ∧ Blk w2 gq 4 #[.bool true] ∧ w2.cell? ⟨w.heap.size, 0, none⟩ = w1.cell? ⟨w.heap.size, 0, none⟩ ∧ (∃ x, w2.cell? ⟨g, 0, none⟩ = some x) ∧ w2.frozen? ⟨g, 0, none⟩ = false ∧ w1.heap.size ≤ w2.heap.size) :
    Calls Try.prog 92 #[.pointer (some ⟨g, 0, none⟩), .func (.func K) #[] #[.pointer (some ⟨p, 0, none⟩)], .pointer (some ⟨gc, 0, none⟩)] w (ContPost g gq Qr Qp w) := by
  have hmf : ∀ (fn : Fn) (first cap : Array Value) (w : World), (Instr.makeFunc fn first cap).run Try.prog w = .ok (.func fn first cap) w := fun _ _ _ _ => rfl
  have q0 := hq.one
  have qf := hq.frozen 0
  have Hf := Lib.hid hf
  have HQ := Lib.hid hQ
  have hgl := World.block_lt_of_cell? w _ c7
  have hql := hq.lt
  have Hq := Lib.hid hq
  clear hf hQ hq
  go_enter_defers Try.func92, Try.ntmps92
  go_wp2_with fail
  obtain ⟨w1, hw1⟩ : ∃ w1, w1 = (w.setCell ⟨gq, 0, none⟩ (.bool true)).alloc (.cells #[.pointer (some ⟨g, 0, none⟩)] 57) := ⟨_, rfl⟩
  have F1 : Fr [gq] w w1 := by rw [hw1]; exact ((Fr.refl [gq] w).set_ (.inl (by simp)) _).alloc _
  have q1 : Blk w1 gq 4 #[.bool true] := by rw [hw1]; exact (Hq.out.set_ 0 _).alloc _
  have b1 : Blk w1 w.heap.size 57 #[.pointer (some ⟨g, 0, none⟩)] := by rw [hw1]; exact Blk.new' (by simp) _ _
  have l1 : w.heap.size < w1.heap.size := b1.lt
  rw [← hw1]
  clear hw1
  refine (Hf.out w1 F1 l1 q1).mono ?_
  rintro e w2 (⟨rfl, h2⟩ | ⟨⟨t, u, rfl⟩, h2⟩)
  · obtain ⟨g7, q2, b2, _⟩ := HQ.out w1 w2 F1 l1 q1 (.inl h2)
    rw [b1.one] at b2
    have H2 := Lib.hid h2
    have HF1 := Lib.hid F1
    have Hq1 := Lib.hid q1
    have Hq2 := Lib.hid q2
    clear h2 F1 q1 q2 b1
    go_wp2
    refine leaves_cons (f := 108) (args := #[.pointer (some ⟨w.heap.size, 0, none⟩)]) (by simp) (by simp [go_sem]) ?_
    refine (cont_idle w.heap.size g gq w2 b2 g7 Hq2.out).mono ?_
    rintro e u' w'' ⟨rfl, rfl, rfl⟩
    exact ⟨_, results_none rfl _ _ _, rfl, w1, w2, HF1.out, l1, Hq1.out, Hq2.out, .inl ⟨H2.out, rfl⟩⟩
  · obtain ⟨g7, q2, b2, ⟨x, cx⟩, fx, hs2⟩ := HQ.out w1 w2 F1 l1 q1 (.inr h2)
    rw [b1.one] at b2
    have H2 := Lib.hid h2
    have HF1 := Lib.hid F1
    have Hq1 := Lib.hid q1
    have Hq2 := Lib.hid q2
    clear h2 F1 q1 q2 b1
    go_wp2_with fail
    refine leaves_cons (f := 108) (args := #[.pointer (some ⟨w.heap.size, 0, none⟩)]) (by simp) (by simp [go_sem]) ?_
    refine (cont_caught w.heap.size g gq t u x w2 b2 g7 Hq2.out (by omega) hgq cx fx (by omega) (by omega)).mono ?_
    rintro e u' w'' ⟨rfl, rfl, rfl⟩
    exact ⟨_, results_none rfl _ _ _, rfl, w1, w2, HF1.out, l1, Hq1.out, Hq2.out, .inr ⟨H2.out, t, u, _, rfl⟩⟩

/-- callContinuation on a builder whose flag is set: the continuation's own outcome. -/
theorem cont_in (g gq gc K p : Nat) (R : Ending → World → Prop) (w : World) (c7 : w.cell? ⟨g, 7, none⟩ = some (.pointer (some ⟨gq, 0, none⟩))) (hq : Blk w gq 4 #[.bool true])
    (hK : ∀ args W, (callFunc K args).run Try.prog W = .ok (.enter K args) W)
    (hf : ∀ w1, Fr [] w w1 → Calls Try.prog K #[.pointer (some ⟨gc, 0, none⟩), .pointer (some ⟨p, 0, none⟩)] w1 fun e w2 => (e = .returned (.tuple #[]) ∧ R e w2) ∨ (Panics e ∧ R e w2)) :
    Calls Try.prog 92 #[.pointer (some ⟨g, 0, none⟩), .func (.func K) #[] #[.pointer (some ⟨p, 0, none⟩)], .pointer (some ⟨gc, 0, none⟩)] w R := by
  have hgl := World.block_lt_of_cell? w _ c7
  have q0 := hq.one
  have hql := hq.lt
  have Hf := Lib.hid hf
  clear hf hq
  go_enter_defers Try.func92, Try.ntmps92
  go_wp2_with fail
  refine (Hf.out _ ((Fr.refl [] w).alloc _)).mono ?_
  rintro e w2 (⟨rfl, h2⟩ | ⟨⟨t, u, rfl⟩, h2⟩)
  · have H2 := Lib.hid h2
    clear h2
    go_wp2
    exact ⟨_, results_none rfl _ _ _, H2.out⟩
  · exact h2
end Go.Proofs.Ytdnepnnkpaoaaaa
