/- The contract of the thin package's AddASN1. -/
import Derived.Test.YtdnepnnkpaoaaaaBuild
namespace Go.Proofs.Ytdnepnnkpaoaaaa
open Go.RowKit
set_option linter.unusedVariables false

set_option maxRecDepth 100000 in
set_option maxHeartbeats 800000 in
theorem clos_add0 (K : Kd) (base gc rc p : Nat) (xs ys : List Int) (off pl : Int) (pa : Bool) (ic : Value) (a : Option Addr) (n c : Nat) (w : World)
    (hg : Bld K w base gc xs off pl pa ic (some rc)) (hp : Blk w p 22 #[.slice a n c]) (hpc : p ≠ gc) (hpr : p ≠ rc) (hn : ys.length = n) (hy : BIn w w.heap.size a ys) (hl : xs.length + n ≤ K.lim) (hb : base ≤ w.heap.size) :
    Calls Try.prog 41 #[.pointer (some ⟨gc, 0, none⟩), .pointer (some ⟨p, 0, none⟩)] w (AddPost K base gc (xs ++ ys) off pl pa ic (some rc) w) := by
  have hKok := K.ok
  have p0 := hp.one
  have Hn := Lib.hid hn
  have Hy := Lib.hid hy
  have Hg := Lib.hid hg
  have Hp := Lib.hid hp
  clear hp hn hy hg
  go_enter Try.func41, Try.ntmps41
  go_wp2_with fail
  refine (copied_any a n c ys w Hn.out Hy.out.lt (by omega)).mono ?_
  rintro e w1 ⟨a1, c1, rfl, p1, p2, p3, p4, p5, p6⟩
  have F1 := Fr.of_below p5 []
  have HF := Lib.hid F1
  have G1 := Lib.hid (Hg.out.keep F1)
  clear F1 p4 p6
  go_wp2_with fail
  refine (addBytes_any K base gc xs ys off pl pa ic (some rc) a1 n c1 w1 G1.out Hn.out p3 (by omega) (Nat.le_trans hb p5.size)).mono ?_
  intro e w2 hq
  have hq' := Lib.hid (hq.from_ HF.out)
  obtain ⟨rfl, _⟩ := hq
  go_wp2
  go_end0
  exact hq'.out

set_option maxRecDepth 100000 in
set_option maxHeartbeats 1600000 in
theorem iASN1 (w : World) (t : Int) (a : Option Addr) (n c : Nat) (ys : List Int) (ht : t % 32 ≠ 31) (t0 : 0 ≤ t) (t1 : t ≤ 255) (hn : ys.length = n) (hy : BIn w w.heap.size a ys) (hl : n ≤ 15000000) :
    Calls Try.prog 26 #[.int .i64 t, .slice a n c] w (GotPost w (derWrap t ys)) := by
  obtain ⟨X, hX⟩ : ∃ X, X = derWrap t ys := ⟨_, rfl⟩
  have hdl := derWrap_lenx t ys
  have hex := extraB_le ys.length
  have HXl := Lib.hid (show X.length ≤ 4194304000 by rw [hX]; omega)
  rw [← hX]
  have HX := Lib.hid hX
  obtain ⟨w1, hw1⟩ : ∃ w1, w1 = (w.alloc (.cells #[.slice a n c] 22)).alloc (.cells #[.nilIface, .slice none 0 0, .bool false, .pointer none, .int .i64 0, .int .i64 0, .bool false, .pointer none] 65) := ⟨_, rfl⟩
  have B1 : Bld Kd.items w1 w.heap.size (w.heap.size + 1) [] (0 : Nat) (0 : Nat) false (.pointer none) none := by rw [hw1]; exact ⟨_, Blk.new' (by simp) _ _, OwnB.nil _ _ _, rfl, fun _ h => by cases h⟩
  have P1 : Blk w1 w.heap.size 22 #[.slice a n c] := by rw [hw1]; exact (Blk.new _ _ _).alloc _
  have F2 : Fr [w.heap.size + 1] w w1 := by rw [hw1]; exact ((Fr.refl _ w).alloc _).alloc _
  have Y1 : BIn w1 w.heap.size a ys := F2.bin hy (by simp)
  have HW := Lib.hid hw1
  have hKl : Kd.items.lim = 16000000 := rfl
  have M := Lib.hid (addASN1 Kd.items w.heap.size (w.heap.size + 1) 41 w.heap.size 0 0 false t [] (some ys) (.pointer none) none false 0 Mx w1 B1 (.inl ⟨rfl, rfl⟩) (by simp) F2.size ht t0 (by omega) (by rw [hKl]; simp)
    (fun o h => by injection h with h; subst h; rw [hKl]; exact ⟨by simp only [List.length_nil]; omega, by omega⟩) (fun h => by cases h) (fun _ _ => by kernel_rfl)
    (fun gc rc icc wa fa _ ba fla hba hgc hrc => by
      have l1 := P1.lt
      have hs1 : w1.heap.size = w.heap.size + 1 + 1 := by rw [hw1]; simp
      have hrc' : w.heap.size + 1 ≤ rc := by
        rcases hrc with h | h
        · cases h
        · omega
      have hfS : ∀ i ∈ fS (w.heap.size + 1) none (.pointer none) false, w.heap.size + 1 ≤ i := by intro i hi; simp [fS, icB] at hi; omega
      have := clos_add0 Kd.items w.heap.size gc rc w.heap.size _ ys _ _ _ _ a n c wa ba (fa.blk P1 (fun h => by have := hfS _ h; omega)) (by omega) (by omega) hn (fa.bin Y1 (fun i hi => by have := hfS _ hi; omega)).lt (by rw [hKl]; simp; omega) hba
      exact this.mono fun e w' h => by
        have := Outc.of_add (ins := true) (dep := 0) (M := Mx) ba fla h
        rw [List.append_assoc] at this
        exact this))
  simp only [Option.map_some, List.nil_append] at M
  rw [← hX] at M
  have hmf : ∀ (fn : Fn) (first cap : Array Value) (w : World), (Instr.makeFunc fn first cap).run Try.prog w = .ok (.func fn first cap) w := fun _ _ _ _ => rfl
  clear hX hw1 hn hy Y1 B1 P1 ht hdl
  go_enter Try.func26, Try.ntmps26
  go_wp2_with fail
  rw [← HW.out]
  refine M.out.mono ?_
  rintro e w3 ⟨f3, rfl, ic, rb, b3, _⟩
  have F3 := F2.trans f3 (by intro i hi; simp [fS, icB] at hi; simp [hi])
  clear f3
  go_wp2_with fail
  refine (bytesOf_ok _ _ _ _ _ _ _ _ _ b3 HXl.out).mono ?_
  rintro e w4 ⟨a4, c4, rfl, q1, q2, q3, q4⟩
  go_wp2
  go_ret2
  exact ⟨a4, c4, rfl, q1, q2, q3, (F3.below (B := w.heap.size) (by simp) (Nat.le_refl _)).trans (q4.mono F3.size)⟩

set_option maxRecDepth 100000 in
set_option maxHeartbeats 1600000 in
theorem iASN1_no (w : World) (t : Int) (a : Option Addr) (n c : Nat) (ht : t % 32 = 31) (t0 : 0 ≤ t) (t1 : t ≤ 255) :
    Calls Try.prog 26 #[.int .i64 t, .slice a n c] w (GotNo w) := by
  obtain ⟨w1, hw1⟩ : ∃ w1, w1 = (w.alloc (.cells #[.slice a n c] 22)).alloc (.cells #[.nilIface, .slice none 0 0, .bool false, .pointer none, .int .i64 0, .int .i64 0, .bool false, .pointer none] 65) := ⟨_, rfl⟩
  have B1 : Bld Kd.items w1 w.heap.size (w.heap.size + 1) [] (0 : Nat) (0 : Nat) false (.pointer none) none := by rw [hw1]; exact ⟨_, Blk.new' (by simp) _ _, OwnB.nil _ _ _, rfl, fun _ h => by cases h⟩
  have F2 : Fr [w.heap.size + 1] w w1 := by rw [hw1]; exact ((Fr.refl _ w).alloc _).alloc _
  have HW := Lib.hid hw1
  have M := Lib.hid (fun fv => addASN1_tag Kd.items w.heap.size (w.heap.size + 1) 0 0 false t [] fv (.pointer none) none false 0 Mx w1 B1 ht t0 (by omega))
  have hmf : ∀ (fn : Fn) (first cap : Array Value) (w : World), (Instr.makeFunc fn first cap).run Try.prog w = .ok (.func fn first cap) w := fun _ _ _ _ => rfl
  clear hw1 B1 ht
  go_enter Try.func26, Try.ntmps26
  go_wp2_with fail
  rw [← HW.out]
  refine (M.out _).mono ?_
  intro e w3 hq
  obtain rfl := hq.ret rfl
  obtain ⟨f3, h3⟩ := hq
  have F3 := F2.trans f3 (by intro i hi; simp [fS, icB] at hi; simp [hi])
  have HB : Hid (Bad w3 (w.heap.size + 1)) := Lib.hid (by rcases h3 with ⟨_, h⟩ | ⟨h, _⟩; exact h; cases h)
  clear f3 h3
  go_wp2_with fail
  refine (bytesOf_err _ w3 HB.out).mono ?_
  rintro e w4 ⟨a4, c4, rfl, q1, q2⟩
  go_wp2
  go_ret2
  exact ⟨a4, c4, rfl, q1, (F3.below (B := w.heap.size) (by simp) (Nat.le_refl _)).trans (q2.mono F3.size)⟩
end Go.Proofs.Ytdnepnnkpaoaaaa
