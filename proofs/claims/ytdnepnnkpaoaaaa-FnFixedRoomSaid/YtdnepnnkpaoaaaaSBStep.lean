/- The contract of the reference's step, Kind by Kind. -/
import Derived.Test.YtdnepnnkpaoaaaaSBPrim
namespace Go.Proofs.Ytdnepnnkpaoaaaa
open Go.RowKit
set_option linter.unusedVariables false

theorem bigB_m64 (m : Nat) (n : Int) (h : m = 1 ∨ m = 2 ∨ m = 3 ∨ m = 4 ∨ m = 6 ∨ m = 8) : bigB m (n % 18446744073709551616) = bigB m n := by
  rcases h with rfl | rfl | rfl | rfl | rfl | rfl <;>
  · simp only [bigB, List.nil_append, List.cons_append, List.cons.injEq, and_true]
    omega
/-- What is asked of write, handed these bytes. -/
def WriteG (g : Nat) (C : List Int) (w : World) (R : Ending → World → Prop) : Prop :=
  ∀ a' m c' w1, Fr [] w w1 → BIn w1 w1.heap.size a' C → C.length = m → Calls Try.prog 61 #[.pointer (some ⟨g, 0, none⟩), .slice a' m c'] w1 R
theorem int_infoS : (Try.prog.info? 3).map (fun i => (i.zero, i.size, i.bytes)) = some (some (.int .i64 0), 1, 8) := by kernel_rfl

set_option maxRecDepth 100000 in
set_option maxHeartbeats 3200000 in
theorem st0 (g : Nat) (n t : Int) (dv ov kv : Value) (w : World) (R : Ending → World → Prop) (hR : EndsU R) (hE : WriteG g (bigB 1 n) w R) :
    Calls Try.prog 44 #[.pointer (some ⟨g, 0, none⟩), .agg #[.int .i64 0, .int .i64 n, .int .i64 t, dv, ov, kv]] w R := by
  have HC := Lib.hid (fun w1 => show Calls Try.prog 62 #[.int .u64 (n % 18446744073709551616), .int .i64 1] w1 (OwnPost w1 (bigB 1 n)) by rw [← bigB_m64 1 n (by omega)]; exact big_any (n % 18446744073709551616) 1 w1 (by omega) (by omega) (by omega))
  have HE := Lib.hid hE
  have HR := Lib.hid hR
  have HL := Lib.hid (bigB_len 1 n)
  obtain ⟨C, hC⟩ : ∃ C, C = bigB 1 n := ⟨_, rfl⟩
  rw [← hC] at HC HE HL
  have ew : IntKind.u64.wrap n = n % 18446744073709551616 := by rw [IntKind.wrap_u64]
  clear hE hR hC
  go_enter Try.func44, Try.ntmps44
  go_wp2_with fail
  obtain ⟨w1, hw1⟩ : ∃ w1, w1 = w.alloc (.cells #[.int .i64 0, .int .i64 n, .int .i64 t, dv, ov, kv] 45) := ⟨_, rfl⟩
  rw [← hw1]
  have b1 : Blk w1 w.heap.size 45 #[.int .i64 0, .int .i64 n, .int .i64 t, dv, ov, kv] := by rw [hw1]; exact Blk.new _ _ _
  have F1 := Lib.hid (show Fr [] w w1 by rw [hw1]; exact (Fr.refl [] w).alloc _)
  obtain ⟨q, hqd⟩ : ∃ q, q = w.heap.size := ⟨_, rfl⟩
  have Hqd := Lib.hid hqd
  rw [← hqd] at b1 ⊢
  have d0 : w1.cell? ⟨q, 0, none⟩ = some (.int .i64 0) := b1.cell 0
  have d1 : w1.cell? ⟨q, 1, none⟩ = some (.int .i64 n) := b1.cell 1
  have d2 : w1.cell? ⟨q, 2, none⟩ = some (.int .i64 t) := b1.cell 2
  have d5 : w1.cell? ⟨q, 5, none⟩ = some (kv) := b1.cell 5
  have B1 := Lib.hid b1
  have hql : q < w1.heap.size := b1.lt
  clear hw1 b1 hqd
  go_region_law ((first
    | (refine step_go_call1 (f := 62) (args := #[.int .u64 (n % 18446744073709551616), .int .i64 1]) rfl (by simp [go_sem]) (HC.out _) ?_; rintro e w2 ⟨a3, c3, rfl, q1, q2, q3, q4, q5⟩; refine ⟨_, rfl, ?_⟩; have F2 := Lib.hid (show Fr [] w1 w2 by first | exact (((Fr.refl [] w1).alloc _).drew).trans (Fr.of_below q4 []) (by simp) | exact (((Fr.refl [] w1).drew).alloc _).trans (Fr.of_below q4 []) (by simp)); have Q3 := Lib.hid q3; clear q1 q2 q3 q4 q5; rw [HL.out])
    | (refine step_go_call2 (f := 61) (args := #[.pointer (some ⟨g, 0, none⟩), .slice a3 1 c3]) rfl (by simp [go_sem]) (HE.out a3 1 c3 w2 (F1.out.trans F2.out (by simp)) Q3.out HL.out) (fun e w' h => .inl (HR.out e w' h)) (fun ch w' h => by have := HR.out _ _ h; cases this) ?_; intro w9 hq9; have Hq9 := Lib.hid hq9; clear hq9)
    | fail))
  all_goals (
    go_simp
    go_wp2_with fail
    go_end0
    exact Hq9.out)

set_option maxRecDepth 100000 in
set_option maxHeartbeats 3200000 in
theorem st1 (g : Nat) (n t : Int) (dv ov kv : Value) (w : World) (R : Ending → World → Prop) (hR : EndsU R) (hE : WriteG g (bigB 2 n) w R) :
    Calls Try.prog 44 #[.pointer (some ⟨g, 0, none⟩), .agg #[.int .i64 1, .int .i64 n, .int .i64 t, dv, ov, kv]] w R := by
  have HC := Lib.hid (fun w1 => show Calls Try.prog 62 #[.int .u64 (n % 18446744073709551616), .int .i64 2] w1 (OwnPost w1 (bigB 2 n)) by rw [← bigB_m64 2 n (by omega)]; exact big_any (n % 18446744073709551616) 2 w1 (by omega) (by omega) (by omega))
  have HE := Lib.hid hE
  have HR := Lib.hid hR
  have HL := Lib.hid (bigB_len 2 n)
  obtain ⟨C, hC⟩ : ∃ C, C = bigB 2 n := ⟨_, rfl⟩
  rw [← hC] at HC HE HL
  have ew : IntKind.u64.wrap n = n % 18446744073709551616 := by rw [IntKind.wrap_u64]
  clear hE hR hC
  go_enter Try.func44, Try.ntmps44
  go_wp2_with fail
  obtain ⟨w1, hw1⟩ : ∃ w1, w1 = w.alloc (.cells #[.int .i64 1, .int .i64 n, .int .i64 t, dv, ov, kv] 45) := ⟨_, rfl⟩
  rw [← hw1]
  have b1 : Blk w1 w.heap.size 45 #[.int .i64 1, .int .i64 n, .int .i64 t, dv, ov, kv] := by rw [hw1]; exact Blk.new _ _ _
  have F1 := Lib.hid (show Fr [] w w1 by rw [hw1]; exact (Fr.refl [] w).alloc _)
  obtain ⟨q, hqd⟩ : ∃ q, q = w.heap.size := ⟨_, rfl⟩
  have Hqd := Lib.hid hqd
  rw [← hqd] at b1 ⊢
  have d0 : w1.cell? ⟨q, 0, none⟩ = some (.int .i64 1) := b1.cell 0
  have d1 : w1.cell? ⟨q, 1, none⟩ = some (.int .i64 n) := b1.cell 1
  have d2 : w1.cell? ⟨q, 2, none⟩ = some (.int .i64 t) := b1.cell 2
  have d5 : w1.cell? ⟨q, 5, none⟩ = some (kv) := b1.cell 5
  have B1 := Lib.hid b1
  have hql : q < w1.heap.size := b1.lt
  clear hw1 b1 hqd
  go_region_law ((first
    | (refine step_go_call1 (f := 62) (args := #[.int .u64 (n % 18446744073709551616), .int .i64 2]) rfl (by simp [go_sem]) (HC.out _) ?_; rintro e w2 ⟨a3, c3, rfl, q1, q2, q3, q4, q5⟩; refine ⟨_, rfl, ?_⟩; have F2 := Lib.hid (show Fr [] w1 w2 by first | exact (((Fr.refl [] w1).alloc _).drew).trans (Fr.of_below q4 []) (by simp) | exact (((Fr.refl [] w1).drew).alloc _).trans (Fr.of_below q4 []) (by simp)); have Q3 := Lib.hid q3; clear q1 q2 q3 q4 q5; rw [HL.out])
    | (refine step_go_call2 (f := 61) (args := #[.pointer (some ⟨g, 0, none⟩), .slice a3 2 c3]) rfl (by simp [go_sem]) (HE.out a3 2 c3 w2 (F1.out.trans F2.out (by simp)) Q3.out HL.out) (fun e w' h => .inl (HR.out e w' h)) (fun ch w' h => by have := HR.out _ _ h; cases this) ?_; intro w9 hq9; have Hq9 := Lib.hid hq9; clear hq9)
    | fail))
  all_goals (
    go_simp
    go_wp2_with fail
    go_end0
    exact Hq9.out)

set_option maxRecDepth 100000 in
set_option maxHeartbeats 3200000 in
theorem st2 (g : Nat) (n t : Int) (dv ov kv : Value) (w : World) (R : Ending → World → Prop) (hR : EndsU R) (hE : WriteG g (bigB 3 n) w R) :
    Calls Try.prog 44 #[.pointer (some ⟨g, 0, none⟩), .agg #[.int .i64 2, .int .i64 n, .int .i64 t, dv, ov, kv]] w R := by
  have HC := Lib.hid (fun w1 => show Calls Try.prog 62 #[.int .u64 (n % 18446744073709551616), .int .i64 3] w1 (OwnPost w1 (bigB 3 n)) by rw [← bigB_m64 3 n (by omega)]; exact big_any (n % 18446744073709551616) 3 w1 (by omega) (by omega) (by omega))
  have HE := Lib.hid hE
  have HR := Lib.hid hR
  have HL := Lib.hid (bigB_len 3 n)
  obtain ⟨C, hC⟩ : ∃ C, C = bigB 3 n := ⟨_, rfl⟩
  rw [← hC] at HC HE HL
  have ew : IntKind.u64.wrap n = n % 18446744073709551616 := by rw [IntKind.wrap_u64]
  clear hE hR hC
  go_enter Try.func44, Try.ntmps44
  go_wp2_with fail
  obtain ⟨w1, hw1⟩ : ∃ w1, w1 = w.alloc (.cells #[.int .i64 2, .int .i64 n, .int .i64 t, dv, ov, kv] 45) := ⟨_, rfl⟩
  rw [← hw1]
  have b1 : Blk w1 w.heap.size 45 #[.int .i64 2, .int .i64 n, .int .i64 t, dv, ov, kv] := by rw [hw1]; exact Blk.new _ _ _
  have F1 := Lib.hid (show Fr [] w w1 by rw [hw1]; exact (Fr.refl [] w).alloc _)
  obtain ⟨q, hqd⟩ : ∃ q, q = w.heap.size := ⟨_, rfl⟩
  have Hqd := Lib.hid hqd
  rw [← hqd] at b1 ⊢
  have d0 : w1.cell? ⟨q, 0, none⟩ = some (.int .i64 2) := b1.cell 0
  have d1 : w1.cell? ⟨q, 1, none⟩ = some (.int .i64 n) := b1.cell 1
  have d2 : w1.cell? ⟨q, 2, none⟩ = some (.int .i64 t) := b1.cell 2
  have d5 : w1.cell? ⟨q, 5, none⟩ = some (kv) := b1.cell 5
  have B1 := Lib.hid b1
  have hql : q < w1.heap.size := b1.lt
  clear hw1 b1 hqd
  go_region_law ((first
    | (refine step_go_call1 (f := 62) (args := #[.int .u64 (n % 18446744073709551616), .int .i64 3]) rfl (by simp [go_sem]) (HC.out _) ?_; rintro e w2 ⟨a3, c3, rfl, q1, q2, q3, q4, q5⟩; refine ⟨_, rfl, ?_⟩; have F2 := Lib.hid (show Fr [] w1 w2 by first | exact (((Fr.refl [] w1).alloc _).drew).trans (Fr.of_below q4 []) (by simp) | exact (((Fr.refl [] w1).drew).alloc _).trans (Fr.of_below q4 []) (by simp)); have Q3 := Lib.hid q3; clear q1 q2 q3 q4 q5; rw [HL.out])
    | (refine step_go_call2 (f := 61) (args := #[.pointer (some ⟨g, 0, none⟩), .slice a3 3 c3]) rfl (by simp [go_sem]) (HE.out a3 3 c3 w2 (F1.out.trans F2.out (by simp)) Q3.out HL.out) (fun e w' h => .inl (HR.out e w' h)) (fun ch w' h => by have := HR.out _ _ h; cases this) ?_; intro w9 hq9; have Hq9 := Lib.hid hq9; clear hq9)
    | fail))
  all_goals (
    go_simp
    go_wp2_with fail
    go_end0
    exact Hq9.out)

set_option maxRecDepth 100000 in
set_option maxHeartbeats 3200000 in
theorem st3 (g : Nat) (n t : Int) (dv ov kv : Value) (w : World) (R : Ending → World → Prop) (hR : EndsU R) (hE : WriteG g (bigB 4 n) w R) :
    Calls Try.prog 44 #[.pointer (some ⟨g, 0, none⟩), .agg #[.int .i64 3, .int .i64 n, .int .i64 t, dv, ov, kv]] w R := by
  have HC := Lib.hid (fun w1 => show Calls Try.prog 62 #[.int .u64 (n % 18446744073709551616), .int .i64 4] w1 (OwnPost w1 (bigB 4 n)) by rw [← bigB_m64 4 n (by omega)]; exact big_any (n % 18446744073709551616) 4 w1 (by omega) (by omega) (by omega))
  have HE := Lib.hid hE
  have HR := Lib.hid hR
  have HL := Lib.hid (bigB_len 4 n)
  obtain ⟨C, hC⟩ : ∃ C, C = bigB 4 n := ⟨_, rfl⟩
  rw [← hC] at HC HE HL
  have ew : IntKind.u64.wrap n = n % 18446744073709551616 := by rw [IntKind.wrap_u64]
  clear hE hR hC
  go_enter Try.func44, Try.ntmps44
  go_wp2_with fail
  obtain ⟨w1, hw1⟩ : ∃ w1, w1 = w.alloc (.cells #[.int .i64 3, .int .i64 n, .int .i64 t, dv, ov, kv] 45) := ⟨_, rfl⟩
  rw [← hw1]
  have b1 : Blk w1 w.heap.size 45 #[.int .i64 3, .int .i64 n, .int .i64 t, dv, ov, kv] := by rw [hw1]; exact Blk.new _ _ _
  have F1 := Lib.hid (show Fr [] w w1 by rw [hw1]; exact (Fr.refl [] w).alloc _)
  obtain ⟨q, hqd⟩ : ∃ q, q = w.heap.size := ⟨_, rfl⟩
  have Hqd := Lib.hid hqd
  rw [← hqd] at b1 ⊢
  have d0 : w1.cell? ⟨q, 0, none⟩ = some (.int .i64 3) := b1.cell 0
  have d1 : w1.cell? ⟨q, 1, none⟩ = some (.int .i64 n) := b1.cell 1
  have d2 : w1.cell? ⟨q, 2, none⟩ = some (.int .i64 t) := b1.cell 2
  have d5 : w1.cell? ⟨q, 5, none⟩ = some (kv) := b1.cell 5
  have B1 := Lib.hid b1
  have hql : q < w1.heap.size := b1.lt
  clear hw1 b1 hqd
  go_region_law ((first
    | (refine step_go_call1 (f := 62) (args := #[.int .u64 (n % 18446744073709551616), .int .i64 4]) rfl (by simp [go_sem]) (HC.out _) ?_; rintro e w2 ⟨a3, c3, rfl, q1, q2, q3, q4, q5⟩; refine ⟨_, rfl, ?_⟩; have F2 := Lib.hid (show Fr [] w1 w2 by first | exact (((Fr.refl [] w1).alloc _).drew).trans (Fr.of_below q4 []) (by simp) | exact (((Fr.refl [] w1).drew).alloc _).trans (Fr.of_below q4 []) (by simp)); have Q3 := Lib.hid q3; clear q1 q2 q3 q4 q5; rw [HL.out])
    | (refine step_go_call2 (f := 61) (args := #[.pointer (some ⟨g, 0, none⟩), .slice a3 4 c3]) rfl (by simp [go_sem]) (HE.out a3 4 c3 w2 (F1.out.trans F2.out (by simp)) Q3.out HL.out) (fun e w' h => .inl (HR.out e w' h)) (fun ch w' h => by have := HR.out _ _ h; cases this) ?_; intro w9 hq9; have Hq9 := Lib.hid hq9; clear hq9)
    | fail))
  all_goals (
    go_simp
    go_wp2_with fail
    go_end0
    exact Hq9.out)

set_option maxRecDepth 100000 in
set_option maxHeartbeats 3200000 in
theorem st4 (g : Nat) (n t : Int) (dv ov kv : Value) (w : World) (R : Ending → World → Prop) (hR : EndsU R) (hE : WriteG g (bigB 6 n) w R) :
    Calls Try.prog 44 #[.pointer (some ⟨g, 0, none⟩), .agg #[.int .i64 4, .int .i64 n, .int .i64 t, dv, ov, kv]] w R := by
  have HC := Lib.hid (fun w1 => show Calls Try.prog 62 #[.int .u64 (n % 18446744073709551616), .int .i64 6] w1 (OwnPost w1 (bigB 6 n)) by rw [← bigB_m64 6 n (by omega)]; exact big_any (n % 18446744073709551616) 6 w1 (by omega) (by omega) (by omega))
  have HE := Lib.hid hE
  have HR := Lib.hid hR
  have HL := Lib.hid (bigB_len 6 n)
  obtain ⟨C, hC⟩ : ∃ C, C = bigB 6 n := ⟨_, rfl⟩
  rw [← hC] at HC HE HL
  have ew : IntKind.u64.wrap n = n % 18446744073709551616 := by rw [IntKind.wrap_u64]
  clear hE hR hC
  go_enter Try.func44, Try.ntmps44
  go_wp2_with fail
  obtain ⟨w1, hw1⟩ : ∃ w1, w1 = w.alloc (.cells #[.int .i64 4, .int .i64 n, .int .i64 t, dv, ov, kv] 45) := ⟨_, rfl⟩
  rw [← hw1]
  have b1 : Blk w1 w.heap.size 45 #[.int .i64 4, .int .i64 n, .int .i64 t, dv, ov, kv] := by rw [hw1]; exact Blk.new _ _ _
  have F1 := Lib.hid (show Fr [] w w1 by rw [hw1]; exact (Fr.refl [] w).alloc _)
  obtain ⟨q, hqd⟩ : ∃ q, q = w.heap.size := ⟨_, rfl⟩
  have Hqd := Lib.hid hqd
  rw [← hqd] at b1 ⊢
  have d0 : w1.cell? ⟨q, 0, none⟩ = some (.int .i64 4) := b1.cell 0
  have d1 : w1.cell? ⟨q, 1, none⟩ = some (.int .i64 n) := b1.cell 1
  have d2 : w1.cell? ⟨q, 2, none⟩ = some (.int .i64 t) := b1.cell 2
  have d5 : w1.cell? ⟨q, 5, none⟩ = some (kv) := b1.cell 5
  have B1 := Lib.hid b1
  have hql : q < w1.heap.size := b1.lt
  clear hw1 b1 hqd
  go_region_law ((first
    | (refine step_go_call1 (f := 62) (args := #[.int .u64 (n % 18446744073709551616), .int .i64 6]) rfl (by simp [go_sem]) (HC.out _) ?_; rintro e w2 ⟨a3, c3, rfl, q1, q2, q3, q4, q5⟩; refine ⟨_, rfl, ?_⟩; have F2 := Lib.hid (show Fr [] w1 w2 by first | exact (((Fr.refl [] w1).alloc _).drew).trans (Fr.of_below q4 []) (by simp) | exact (((Fr.refl [] w1).drew).alloc _).trans (Fr.of_below q4 []) (by simp)); have Q3 := Lib.hid q3; clear q1 q2 q3 q4 q5; rw [HL.out])
    | (refine step_go_call2 (f := 61) (args := #[.pointer (some ⟨g, 0, none⟩), .slice a3 6 c3]) rfl (by simp [go_sem]) (HE.out a3 6 c3 w2 (F1.out.trans F2.out (by simp)) Q3.out HL.out) (fun e w' h => .inl (HR.out e w' h)) (fun ch w' h => by have := HR.out _ _ h; cases this) ?_; intro w9 hq9; have Hq9 := Lib.hid hq9; clear hq9)
    | fail))
  all_goals (
    go_simp
    go_wp2_with fail
    go_end0
    exact Hq9.out)

set_option maxRecDepth 100000 in
set_option maxHeartbeats 3200000 in
theorem st5 (g : Nat) (n t : Int) (dv ov kv : Value) (w : World) (R : Ending → World → Prop) (hR : EndsU R) (hE : WriteG g (bigB 8 n) w R) :
    Calls Try.prog 44 #[.pointer (some ⟨g, 0, none⟩), .agg #[.int .i64 5, .int .i64 n, .int .i64 t, dv, ov, kv]] w R := by
  have HC := Lib.hid (fun w1 => show Calls Try.prog 62 #[.int .u64 (n % 18446744073709551616), .int .i64 8] w1 (OwnPost w1 (bigB 8 n)) by rw [← bigB_m64 8 n (by omega)]; exact big_any (n % 18446744073709551616) 8 w1 (by omega) (by omega) (by omega))
  have HE := Lib.hid hE
  have HR := Lib.hid hR
  have HL := Lib.hid (bigB_len 8 n)
  obtain ⟨C, hC⟩ : ∃ C, C = bigB 8 n := ⟨_, rfl⟩
  rw [← hC] at HC HE HL
  have ew : IntKind.u64.wrap n = n % 18446744073709551616 := by rw [IntKind.wrap_u64]
  clear hE hR hC
  go_enter Try.func44, Try.ntmps44
  go_wp2_with fail
  obtain ⟨w1, hw1⟩ : ∃ w1, w1 = w.alloc (.cells #[.int .i64 5, .int .i64 n, .int .i64 t, dv, ov, kv] 45) := ⟨_, rfl⟩
  rw [← hw1]
  have b1 : Blk w1 w.heap.size 45 #[.int .i64 5, .int .i64 n, .int .i64 t, dv, ov, kv] := by rw [hw1]; exact Blk.new _ _ _
  have F1 := Lib.hid (show Fr [] w w1 by rw [hw1]; exact (Fr.refl [] w).alloc _)
  obtain ⟨q, hqd⟩ : ∃ q, q = w.heap.size := ⟨_, rfl⟩
  have Hqd := Lib.hid hqd
  rw [← hqd] at b1 ⊢
  have d0 : w1.cell? ⟨q, 0, none⟩ = some (.int .i64 5) := b1.cell 0
  have d1 : w1.cell? ⟨q, 1, none⟩ = some (.int .i64 n) := b1.cell 1
  have d2 : w1.cell? ⟨q, 2, none⟩ = some (.int .i64 t) := b1.cell 2
  have d5 : w1.cell? ⟨q, 5, none⟩ = some (kv) := b1.cell 5
  have B1 := Lib.hid b1
  have hql : q < w1.heap.size := b1.lt
  clear hw1 b1 hqd
  go_region_law ((first
    | (refine step_go_call1 (f := 62) (args := #[.int .u64 (n % 18446744073709551616), .int .i64 8]) rfl (by simp [go_sem]) (HC.out _) ?_; rintro e w2 ⟨a3, c3, rfl, q1, q2, q3, q4, q5⟩; refine ⟨_, rfl, ?_⟩; have F2 := Lib.hid (show Fr [] w1 w2 by first | exact (((Fr.refl [] w1).alloc _).drew).trans (Fr.of_below q4 []) (by simp) | exact (((Fr.refl [] w1).drew).alloc _).trans (Fr.of_below q4 []) (by simp)); have Q3 := Lib.hid q3; clear q1 q2 q3 q4 q5; rw [HL.out])
    | (refine step_go_call2 (f := 61) (args := #[.pointer (some ⟨g, 0, none⟩), .slice a3 8 c3]) rfl (by simp [go_sem]) (HE.out a3 8 c3 w2 (F1.out.trans F2.out (by simp)) Q3.out HL.out) (fun e w' h => .inl (HR.out e w' h)) (fun ch w' h => by have := HR.out _ _ h; cases this) ?_; intro w9 hq9; have Hq9 := Lib.hid hq9; clear hq9)
    | fail))
  all_goals (
    go_simp
    go_wp2_with fail
    go_end0
    exact Hq9.out)

set_option maxRecDepth 100000 in
set_option maxHeartbeats 3200000 in
theorem st6 (g : Nat) (n t : Int) (d : List Int) (a : Option Addr) (m c : Nat) (ov kv : Value) (w : World) (R : Ending → World → Prop) (hR : EndsU R) (hm : d.length = m) (hd : BIn w w.heap.size a d) (hE : WriteG g d w R) :
    Calls Try.prog 44 #[.pointer (some ⟨g, 0, none⟩), .agg #[.int .i64 6, .int .i64 n, .int .i64 t, .slice a m c, ov, kv]] w R := by
  have HE := Lib.hid hE
  have HR := Lib.hid hR
  have Hm := Lib.hid hm
  have Hd := Lib.hid hd
  clear hE hR hm hd
  go_enter Try.func44, Try.ntmps44
  go_wp2_with fail
  refine (HE.out a m c _ ((Fr.refl [] w).alloc _) (((Fr.refl [] w).alloc _).bin Hd.out (by simp)).lt Hm.out).mono ?_
  intro e w9 hq
  obtain rfl := HR.out _ _ hq
  have hq' := Lib.hid hq
  clear hq
  go_wp2_with fail
  go_end0
  exact hq'.out

/-- What is asked of within: the bytes I, and Q of the world. -/
def WithinG (g : Nat) (a5 : Option Addr) (m5 c5 : Nat) (I : List Int) (w : World) (Q : World → Prop) : Prop :=
  ∀ w1, Fr [] w w1 → Calls Try.prog 64 #[.pointer (some ⟨g, 0, none⟩), .slice a5 m5 c5] w1 (fun e w2 => ∃ a c, e = .returned (.slice a I.length c) ∧ BIn w2 w2.heap.size a I ∧ Fr [g] w1 w2 ∧ Q w2)

set_option maxRecDepth 100000 in
set_option maxHeartbeats 3200000 in
theorem st7 (g : Nat) (n t : Int) (dv ov : Value) (a5 : Option Addr) (m5 c5 : Nat) (w : World) (R : Ending → World → Prop) (hR : EndsU R) (hg : g < w.heap.size) (Q : World → Prop) (I : List Int) (hW : WithinG g a5 m5 c5 I w Q) (hP : ∀ w2 a c, Q w2 → BIn w2 w2.heap.size a I → Calls Try.prog 63 #[.pointer (some ⟨g, 0, none⟩), .slice a I.length c, .int .i64 1] w2 R) :
    Calls Try.prog 44 #[.pointer (some ⟨g, 0, none⟩), .agg #[.int .i64 7, .int .i64 n, .int .i64 t, dv, ov, .slice a5 m5 c5]] w R := by
  have HW := Lib.hid hW
  have HP := Lib.hid hP
  have HR := Lib.hid hR
  have hgl := hg
  clear hW hP hR
  obtain ⟨L, hL⟩ : ∃ L, L = I.length := ⟨_, rfl⟩
  have HLh := Lib.hid hL
  clear hL
  go_enter Try.func44, Try.ntmps44
  go_wp2_with fail
  obtain ⟨w1, hw1⟩ : ∃ w1, w1 = w.alloc (.cells #[.int .i64 7, .int .i64 n, .int .i64 t, dv, ov, .slice a5 m5 c5] 45) := ⟨_, rfl⟩
  rw [← hw1]
  have b1 : Blk w1 w.heap.size 45 #[.int .i64 7, .int .i64 n, .int .i64 t, dv, ov, .slice a5 m5 c5] := by rw [hw1]; exact Blk.new _ _ _
  have F1 := Lib.hid (show Fr [] w w1 by rw [hw1]; exact (Fr.refl [] w).alloc _)
  obtain ⟨q, hqd⟩ : ∃ q, q = w.heap.size := ⟨_, rfl⟩
  have Hqd := Lib.hid hqd
  rw [← hqd] at b1 ⊢
  have d0 : w1.cell? ⟨q, 0, none⟩ = some (.int .i64 7) := b1.cell 0
  have d1 : w1.cell? ⟨q, 1, none⟩ = some (.int .i64 n) := b1.cell 1
  have d2 : w1.cell? ⟨q, 2, none⟩ = some (.int .i64 t) := b1.cell 2
  have d5 : w1.cell? ⟨q, 5, none⟩ = some (.slice a5 m5 c5) := b1.cell 5
  have B1 := Lib.hid b1
  have hql : q < w1.heap.size := b1.lt
  clear hw1 b1 hqd
  have Hqg := Lib.hid (show q ≠ g by have := Hqd.out; omega)
  clear hgl hg
  go_region_law ((first
    | (refine step_go_call1 (f := 64) (args := #[.pointer (some ⟨g, 0, none⟩), .slice a5 m5 c5]) rfl (by simp [go_sem]) (HW.out _ (F1.out.drew)) ?_; rintro e w2 ⟨a3, c3, rfl, q1, q2, q3⟩; refine ⟨_, rfl, ?_⟩; have B2 := Lib.hid ((show Fr [g] w1 w2 from ((Fr.refl [g] w1).drew).trans q2 (by simp)).blk B1.out (by have := Hqg.out; simp; exact this)); have e0 : w2.cell? ⟨q, 0, none⟩ = some (.int .i64 7) := B2.out.cell 0; have e2 : w2.cell? ⟨q, 2, none⟩ = some (.int .i64 t) := B2.out.cell 2; have HP2 := Lib.hid (HP.out w2 a3 c3 q3 q1); clear q1 q2 q3; rw [← HLh.out] at HP2 ⊢)
    | (refine step_go_call2 (f := 63) rfl (by first | (simp [go_sem]; done) | (simp [go_sem]; decide)) HP2.out (fun e w' h => .inl (HR.out e w' h)) (fun ch w' h => by have := HR.out _ _ h; cases this) ?_; intro w9 hq9; have Hq9 := Lib.hid hq9; clear hq9)
    | fail))
  all_goals (
    go_simp
    go_wp2_with fail
    go_end0
    exact Hq9.out)

set_option maxRecDepth 100000 in
set_option maxHeartbeats 3200000 in
theorem st8 (g : Nat) (n t : Int) (dv ov : Value) (a5 : Option Addr) (m5 c5 : Nat) (w : World) (R : Ending → World → Prop) (hR : EndsU R) (hg : g < w.heap.size) (Q : World → Prop) (I : List Int) (hW : WithinG g a5 m5 c5 I w Q) (hP : ∀ w2 a c, Q w2 → BIn w2 w2.heap.size a I → Calls Try.prog 63 #[.pointer (some ⟨g, 0, none⟩), .slice a I.length c, .int .i64 2] w2 R) :
    Calls Try.prog 44 #[.pointer (some ⟨g, 0, none⟩), .agg #[.int .i64 8, .int .i64 n, .int .i64 t, dv, ov, .slice a5 m5 c5]] w R := by
  have HW := Lib.hid hW
  have HP := Lib.hid hP
  have HR := Lib.hid hR
  have hgl := hg
  clear hW hP hR
  obtain ⟨L, hL⟩ : ∃ L, L = I.length := ⟨_, rfl⟩
  have HLh := Lib.hid hL
  clear hL
  go_enter Try.func44, Try.ntmps44
  go_wp2_with fail
  obtain ⟨w1, hw1⟩ : ∃ w1, w1 = w.alloc (.cells #[.int .i64 8, .int .i64 n, .int .i64 t, dv, ov, .slice a5 m5 c5] 45) := ⟨_, rfl⟩
  rw [← hw1]
  have b1 : Blk w1 w.heap.size 45 #[.int .i64 8, .int .i64 n, .int .i64 t, dv, ov, .slice a5 m5 c5] := by rw [hw1]; exact Blk.new _ _ _
  have F1 := Lib.hid (show Fr [] w w1 by rw [hw1]; exact (Fr.refl [] w).alloc _)
  obtain ⟨q, hqd⟩ : ∃ q, q = w.heap.size := ⟨_, rfl⟩
  have Hqd := Lib.hid hqd
  rw [← hqd] at b1 ⊢
  have d0 : w1.cell? ⟨q, 0, none⟩ = some (.int .i64 8) := b1.cell 0
  have d1 : w1.cell? ⟨q, 1, none⟩ = some (.int .i64 n) := b1.cell 1
  have d2 : w1.cell? ⟨q, 2, none⟩ = some (.int .i64 t) := b1.cell 2
  have d5 : w1.cell? ⟨q, 5, none⟩ = some (.slice a5 m5 c5) := b1.cell 5
  have B1 := Lib.hid b1
  have hql : q < w1.heap.size := b1.lt
  clear hw1 b1 hqd
  have Hqg := Lib.hid (show q ≠ g by have := Hqd.out; omega)
  clear hgl hg
  go_region_law ((first
    | (refine step_go_call1 (f := 64) (args := #[.pointer (some ⟨g, 0, none⟩), .slice a5 m5 c5]) rfl (by simp [go_sem]) (HW.out _ (F1.out.drew)) ?_; rintro e w2 ⟨a3, c3, rfl, q1, q2, q3⟩; refine ⟨_, rfl, ?_⟩; have B2 := Lib.hid ((show Fr [g] w1 w2 from ((Fr.refl [g] w1).drew).trans q2 (by simp)).blk B1.out (by have := Hqg.out; simp; exact this)); have e0 : w2.cell? ⟨q, 0, none⟩ = some (.int .i64 8) := B2.out.cell 0; have e2 : w2.cell? ⟨q, 2, none⟩ = some (.int .i64 t) := B2.out.cell 2; have HP2 := Lib.hid (HP.out w2 a3 c3 q3 q1); clear q1 q2 q3; rw [← HLh.out] at HP2 ⊢)
    | (refine step_go_call2 (f := 63) rfl (by first | (simp [go_sem]; done) | (simp [go_sem]; decide)) HP2.out (fun e w' h => .inl (HR.out e w' h)) (fun ch w' h => by have := HR.out _ _ h; cases this) ?_; intro w9 hq9; have Hq9 := Lib.hid hq9; clear hq9)
    | fail))
  all_goals (
    go_simp
    go_wp2_with fail
    go_end0
    exact Hq9.out)

set_option maxRecDepth 100000 in
set_option maxHeartbeats 3200000 in
theorem st9 (g : Nat) (n t : Int) (dv ov : Value) (a5 : Option Addr) (m5 c5 : Nat) (w : World) (R : Ending → World → Prop) (hR : EndsU R) (hg : g < w.heap.size) (Q : World → Prop) (I : List Int) (hW : WithinG g a5 m5 c5 I w Q) (hP : ∀ w2 a c, Q w2 → BIn w2 w2.heap.size a I → Calls Try.prog 63 #[.pointer (some ⟨g, 0, none⟩), .slice a I.length c, .int .i64 3] w2 R) :
    Calls Try.prog 44 #[.pointer (some ⟨g, 0, none⟩), .agg #[.int .i64 9, .int .i64 n, .int .i64 t, dv, ov, .slice a5 m5 c5]] w R := by
  have HW := Lib.hid hW
  have HP := Lib.hid hP
  have HR := Lib.hid hR
  have hgl := hg
  clear hW hP hR
  obtain ⟨L, hL⟩ : ∃ L, L = I.length := ⟨_, rfl⟩
  have HLh := Lib.hid hL
  clear hL
  go_enter Try.func44, Try.ntmps44
  go_wp2_with fail
  obtain ⟨w1, hw1⟩ : ∃ w1, w1 = w.alloc (.cells #[.int .i64 9, .int .i64 n, .int .i64 t, dv, ov, .slice a5 m5 c5] 45) := ⟨_, rfl⟩
  rw [← hw1]
  have b1 : Blk w1 w.heap.size 45 #[.int .i64 9, .int .i64 n, .int .i64 t, dv, ov, .slice a5 m5 c5] := by rw [hw1]; exact Blk.new _ _ _
  have F1 := Lib.hid (show Fr [] w w1 by rw [hw1]; exact (Fr.refl [] w).alloc _)
  obtain ⟨q, hqd⟩ : ∃ q, q = w.heap.size := ⟨_, rfl⟩
  have Hqd := Lib.hid hqd
  rw [← hqd] at b1 ⊢
  have d0 : w1.cell? ⟨q, 0, none⟩ = some (.int .i64 9) := b1.cell 0
  have d1 : w1.cell? ⟨q, 1, none⟩ = some (.int .i64 n) := b1.cell 1
  have d2 : w1.cell? ⟨q, 2, none⟩ = some (.int .i64 t) := b1.cell 2
  have d5 : w1.cell? ⟨q, 5, none⟩ = some (.slice a5 m5 c5) := b1.cell 5
  have B1 := Lib.hid b1
  have hql : q < w1.heap.size := b1.lt
  clear hw1 b1 hqd
  have Hqg := Lib.hid (show q ≠ g by have := Hqd.out; omega)
  clear hgl hg
  go_region_law ((first
    | (refine step_go_call1 (f := 64) (args := #[.pointer (some ⟨g, 0, none⟩), .slice a5 m5 c5]) rfl (by simp [go_sem]) (HW.out _ (F1.out.drew)) ?_; rintro e w2 ⟨a3, c3, rfl, q1, q2, q3⟩; refine ⟨_, rfl, ?_⟩; have B2 := Lib.hid ((show Fr [g] w1 w2 from ((Fr.refl [g] w1).drew).trans q2 (by simp)).blk B1.out (by have := Hqg.out; simp; exact this)); have e0 : w2.cell? ⟨q, 0, none⟩ = some (.int .i64 9) := B2.out.cell 0; have e2 : w2.cell? ⟨q, 2, none⟩ = some (.int .i64 t) := B2.out.cell 2; have HP2 := Lib.hid (HP.out w2 a3 c3 q3 q1); clear q1 q2 q3; rw [← HLh.out] at HP2 ⊢)
    | (refine step_go_call2 (f := 63) rfl (by first | (simp [go_sem]; done) | (simp [go_sem]; decide)) HP2.out (fun e w' h => .inl (HR.out e w' h)) (fun ch w' h => by have := HR.out _ _ h; cases this) ?_; intro w9 hq9; have Hq9 := Lib.hid hq9; clear hq9)
    | fail))
  all_goals (
    go_simp
    go_wp2_with fail
    go_end0
    exact Hq9.out)

set_option maxRecDepth 100000 in
set_option maxHeartbeats 3200000 in
theorem st10 (g : Nat) (n t : Int) (dv ov : Value) (a5 : Option Addr) (m5 c5 : Nat) (w : World) (R : Ending → World → Prop) (hR : EndsU R) (hg : g < w.heap.size) (Q : World → Prop) (I : List Int) (hW : WithinG g a5 m5 c5 I w Q) (hP : ∀ w2 a c, Q w2 → BIn w2 w2.heap.size a I → Calls Try.prog 63 #[.pointer (some ⟨g, 0, none⟩), .slice a I.length c, .int .i64 4] w2 R) :
    Calls Try.prog 44 #[.pointer (some ⟨g, 0, none⟩), .agg #[.int .i64 10, .int .i64 n, .int .i64 t, dv, ov, .slice a5 m5 c5]] w R := by
  have HW := Lib.hid hW
  have HP := Lib.hid hP
  have HR := Lib.hid hR
  have hgl := hg
  clear hW hP hR
  obtain ⟨L, hL⟩ : ∃ L, L = I.length := ⟨_, rfl⟩
  have HLh := Lib.hid hL
  clear hL
  go_enter Try.func44, Try.ntmps44
  go_wp2_with fail
  obtain ⟨w1, hw1⟩ : ∃ w1, w1 = w.alloc (.cells #[.int .i64 10, .int .i64 n, .int .i64 t, dv, ov, .slice a5 m5 c5] 45) := ⟨_, rfl⟩
  rw [← hw1]
  have b1 : Blk w1 w.heap.size 45 #[.int .i64 10, .int .i64 n, .int .i64 t, dv, ov, .slice a5 m5 c5] := by rw [hw1]; exact Blk.new _ _ _
  have F1 := Lib.hid (show Fr [] w w1 by rw [hw1]; exact (Fr.refl [] w).alloc _)
  obtain ⟨q, hqd⟩ : ∃ q, q = w.heap.size := ⟨_, rfl⟩
  have Hqd := Lib.hid hqd
  rw [← hqd] at b1 ⊢
  have d0 : w1.cell? ⟨q, 0, none⟩ = some (.int .i64 10) := b1.cell 0
  have d1 : w1.cell? ⟨q, 1, none⟩ = some (.int .i64 n) := b1.cell 1
  have d2 : w1.cell? ⟨q, 2, none⟩ = some (.int .i64 t) := b1.cell 2
  have d5 : w1.cell? ⟨q, 5, none⟩ = some (.slice a5 m5 c5) := b1.cell 5
  have B1 := Lib.hid b1
  have hql : q < w1.heap.size := b1.lt
  clear hw1 b1 hqd
  have Hqg := Lib.hid (show q ≠ g by have := Hqd.out; omega)
  clear hgl hg
  go_region_law ((first
    | (refine step_go_call1 (f := 64) (args := #[.pointer (some ⟨g, 0, none⟩), .slice a5 m5 c5]) rfl (by simp [go_sem]) (HW.out _ (F1.out.drew)) ?_; rintro e w2 ⟨a3, c3, rfl, q1, q2, q3⟩; refine ⟨_, rfl, ?_⟩; have B2 := Lib.hid ((show Fr [g] w1 w2 from ((Fr.refl [g] w1).drew).trans q2 (by simp)).blk B1.out (by have := Hqg.out; simp; exact this)); have e0 : w2.cell? ⟨q, 0, none⟩ = some (.int .i64 10) := B2.out.cell 0; have e2 : w2.cell? ⟨q, 2, none⟩ = some (.int .i64 t) := B2.out.cell 2; have HP2 := Lib.hid (HP.out w2 a3 c3 q3 q1); clear q1 q2 q3; rw [← HLh.out] at HP2 ⊢)
    | (refine step_go_call2 (f := 63) rfl (by first | (simp [go_sem]; done) | (simp [go_sem]; decide)) HP2.out (fun e w' h => .inl (HR.out e w' h)) (fun ch w' h => by have := HR.out _ _ h; cases this) ?_; intro w9 hq9; have Hq9 := Lib.hid hq9; clear hq9)
    | fail))
  all_goals (
    go_simp
    go_wp2_with fail
    go_end0
    exact Hq9.out)

set_option maxRecDepth 100000 in
set_option maxHeartbeats 3200000 in
theorem st11 (g : Nat) (n t : Int) (dv ov : Value) (a5 : Option Addr) (m5 c5 : Nat) (w : World) (R : Ending → World → Prop) (hR : EndsU R) (hg : g < w.heap.size) (Q : World → Prop) (I : List Int) (hW : WithinG g a5 m5 c5 I w Q) (hP : ∀ w2 a c, Q w2 → BIn w2 w2.heap.size a I → Calls Try.prog 65 #[.pointer (some ⟨g, 0, none⟩), .int .i64 t, .slice a I.length c] w2 R) :
    Calls Try.prog 44 #[.pointer (some ⟨g, 0, none⟩), .agg #[.int .i64 11, .int .i64 n, .int .i64 t, dv, ov, .slice a5 m5 c5]] w R := by
  have HW := Lib.hid hW
  have HP := Lib.hid hP
  have HR := Lib.hid hR
  have hgl := hg
  clear hW hP hR
  obtain ⟨L, hL⟩ : ∃ L, L = I.length := ⟨_, rfl⟩
  have HLh := Lib.hid hL
  clear hL
  go_enter Try.func44, Try.ntmps44
  go_wp2_with fail
  obtain ⟨w1, hw1⟩ : ∃ w1, w1 = w.alloc (.cells #[.int .i64 11, .int .i64 n, .int .i64 t, dv, ov, .slice a5 m5 c5] 45) := ⟨_, rfl⟩
  rw [← hw1]
  have b1 : Blk w1 w.heap.size 45 #[.int .i64 11, .int .i64 n, .int .i64 t, dv, ov, .slice a5 m5 c5] := by rw [hw1]; exact Blk.new _ _ _
  have F1 := Lib.hid (show Fr [] w w1 by rw [hw1]; exact (Fr.refl [] w).alloc _)
  obtain ⟨q, hqd⟩ : ∃ q, q = w.heap.size := ⟨_, rfl⟩
  have Hqd := Lib.hid hqd
  rw [← hqd] at b1 ⊢
  have d0 : w1.cell? ⟨q, 0, none⟩ = some (.int .i64 11) := b1.cell 0
  have d1 : w1.cell? ⟨q, 1, none⟩ = some (.int .i64 n) := b1.cell 1
  have d2 : w1.cell? ⟨q, 2, none⟩ = some (.int .i64 t) := b1.cell 2
  have d5 : w1.cell? ⟨q, 5, none⟩ = some (.slice a5 m5 c5) := b1.cell 5
  have B1 := Lib.hid b1
  have hql : q < w1.heap.size := b1.lt
  clear hw1 b1 hqd
  have Hqg := Lib.hid (show q ≠ g by have := Hqd.out; omega)
  clear hgl hg
  go_region_law ((first
    | (refine step_go_call1 (f := 64) (args := #[.pointer (some ⟨g, 0, none⟩), .slice a5 m5 c5]) rfl (by simp [go_sem]) (HW.out _ (F1.out.drew)) ?_; rintro e w2 ⟨a3, c3, rfl, q1, q2, q3⟩; refine ⟨_, rfl, ?_⟩; have B2 := Lib.hid ((show Fr [g] w1 w2 from ((Fr.refl [g] w1).drew).trans q2 (by simp)).blk B1.out (by have := Hqg.out; simp; exact this)); have e0 : w2.cell? ⟨q, 0, none⟩ = some (.int .i64 11) := B2.out.cell 0; have e2 : w2.cell? ⟨q, 2, none⟩ = some (.int .i64 t) := B2.out.cell 2; have HP2 := Lib.hid (HP.out w2 a3 c3 q3 q1); clear q1 q2 q3; rw [← HLh.out] at HP2 ⊢)
    | (refine step_go_call2 (f := 65) rfl (by first | (simp [go_sem]; done) | (simp [go_sem]; decide)) HP2.out (fun e w' h => .inl (HR.out e w' h)) (fun ch w' h => by have := HR.out _ _ h; cases this) ?_; intro w9 hq9; have Hq9 := Lib.hid hq9; clear hq9)
    | fail))
  all_goals (
    go_simp
    go_wp2_with fail
    go_end0
    exact Hq9.out)

set_option maxRecDepth 100000 in
set_option maxHeartbeats 3200000 in
theorem stPrim (g : Nat) (kd n t : Int) (dv ov kv : Value) (w : World) (R : Ending → World → Prop) (hR : EndsU R) (h1 : 12 ≤ kd) (h2 : kd ≤ 20)
    (hE : ∀ w1, Fr [] w w1 → Calls Try.prog 66 #[.pointer (some ⟨g, 0, none⟩), .agg #[.int .i64 kd, .int .i64 n, .int .i64 t, dv, ov, kv]] w1 R) :
    Calls Try.prog 44 #[.pointer (some ⟨g, 0, none⟩), .agg #[.int .i64 kd, .int .i64 n, .int .i64 t, dv, ov, kv]] w R := by
  have HE := Lib.hid hE
  have HR := Lib.hid hR
  have f1 : decide (kd < 6) = false := by simp; omega
  have f2 : (kd == 6) = false := by simp; omega
  have f3 : decide (kd ≤ 10) = false := by simp; omega
  have f4 : (kd == 11) = false := by simp; omega
  have f5 : decide (kd < 21) = true := by simp; omega
  clear hE hR h1 h2
  go_enter Try.func44, Try.ntmps44
  go_wp2_with fail
  refine (HE.out _ ((Fr.refl [] w).alloc _)).mono ?_
  intro e w9 hq
  obtain rfl := HR.out _ _ hq
  have hq' := Lib.hid hq
  clear hq
  go_wp2_with fail
  go_end0
  exact hq'.out

set_option maxRecDepth 100000 in
set_option maxHeartbeats 3200000 in
theorem st22 (g : Nat) (n t : Int) (dv ov kv : Value) (w : World) (R : Ending → World → Prop) (hR : EndsU R) (hE : ∀ w1, Fr [] w w1 → Calls Try.prog 67 #[.pointer (some ⟨g, 0, none⟩), .int .i64 n] w1 R) :
    Calls Try.prog 44 #[.pointer (some ⟨g, 0, none⟩), .agg #[.int .i64 22, .int .i64 n, .int .i64 t, dv, ov, kv]] w R := by
  have HE := Lib.hid hE
  have HR := Lib.hid hR
  clear hE hR
  go_enter Try.func44, Try.ntmps44
  go_wp2_with fail
  refine (HE.out _ ((Fr.refl [] w).alloc _)).mono ?_
  intro e w9 hq
  obtain rfl := HR.out _ _ hq
  have hq' := Lib.hid hq
  clear hq
  go_wp2_with fail
  go_end0
  exact hq'.out

set_option maxRecDepth 100000 in
set_option maxHeartbeats 3200000 in
theorem st24 (g : Nat) (n t : Int) (dv ov kv : Value) (w : World) (R : Ending → World → Prop) (hR : EndsU R) (hE : ∀ w1, Fr [] w w1 → Calls Try.prog 68 #[.pointer (some ⟨g, 0, none⟩), .agg #[.int .i64 24, .int .i64 n, .int .i64 t, dv, ov, kv]] w1 R) :
    Calls Try.prog 44 #[.pointer (some ⟨g, 0, none⟩), .agg #[.int .i64 24, .int .i64 n, .int .i64 t, dv, ov, kv]] w R := by
  have HE := Lib.hid hE
  have HR := Lib.hid hR
  clear hE hR
  go_enter Try.func44, Try.ntmps44
  go_wp2_with fail
  refine (HE.out _ ((Fr.refl [] w).alloc _)).mono ?_
  intro e w9 hq
  obtain rfl := HR.out _ _ hq
  have hq' := Lib.hid hq
  clear hq
  go_wp2_with fail
  go_end0
  exact hq'.out

set_option maxRecDepth 100000 in
set_option maxHeartbeats 3200000 in
theorem st25 (g : Nat) (n t : Int) (dv ov kv : Value) (w : World) (R : Ending → World → Prop) (hR : EndsU R) (hE : ∀ w1, Fr [] w w1 → Calls Try.prog 68 #[.pointer (some ⟨g, 0, none⟩), .agg #[.int .i64 25, .int .i64 n, .int .i64 t, dv, ov, kv]] w1 R) :
    Calls Try.prog 44 #[.pointer (some ⟨g, 0, none⟩), .agg #[.int .i64 25, .int .i64 n, .int .i64 t, dv, ov, kv]] w R := by
  have HE := Lib.hid hE
  have HR := Lib.hid hR
  clear hE hR
  go_enter Try.func44, Try.ntmps44
  go_wp2_with fail
  refine (HE.out _ ((Fr.refl [] w).alloc _)).mono ?_
  intro e w9 hq
  obtain rfl := HR.out _ _ hq
  have hq' := Lib.hid hq
  clear hq
  go_wp2_with fail
  go_end0
  exact hq'.out

set_option maxRecDepth 100000 in
set_option maxHeartbeats 3200000 in
theorem st21 (g : Nat) (n t : Int) (dv ov kv : Value) (w : World) (R : Ending → World → Prop) (hR : EndsU R) (base : Nat) (s : PB) (rb : Option Nat) (hg : SB w base g s rb) (hE : ∀ w1, Fr [] w w1 → R (.returned (.tuple #[])) (w1.setCell ⟨g, 2, none⟩ (.bool true))) :
    Calls Try.prog 44 #[.pointer (some ⟨g, 0, none⟩), .agg #[.int .i64 21, .int .i64 n, .int .i64 t, dv, ov, kv]] w R := by
  have HE := Lib.hid hE
  obtain ⟨w1, hw1⟩ : ∃ w1, w1 = w.alloc (.cells #[.int .i64 21, .int .i64 n, .int .i64 t, dv, ov, kv] 45) := ⟨_, rfl⟩
  have F1 := Lib.hid (show Fr [] w w1 by rw [hw1]; exact (Fr.refl [] w).alloc _)
  obtain ⟨_, _, c2, _, fz⟩ := (hg.keep F1.out).cells
  have f2 := fz 2
  rw [hw1] at c2 f2
  have HW := Lib.hid hw1
  clear hE hR hg fz hw1
  go_enter Try.func44, Try.ntmps44
  go_wp2_with fail
  go_end0
  exact HE.out _ ((Fr.refl [] w).alloc _)

set_option maxRecDepth 100000 in
set_option maxHeartbeats 3200000 in
theorem st23 (g : Nat) (n t : Int) (dv ov kv : Value) (w : World) (R : Ending → World → Prop) (hR : EndsU R) (base : Nat) (s : PB) (rb : Option Nat) (hg : SB w base g s rb) (hE : ∀ w1, Fr [] w w1 → R (.returned (.tuple #[])) (w1.setCell ⟨g, 2, none⟩ (.bool true))) :
    Calls Try.prog 44 #[.pointer (some ⟨g, 0, none⟩), .agg #[.int .i64 23, .int .i64 n, .int .i64 t, dv, ov, kv]] w R := by
  have HE := Lib.hid hE
  obtain ⟨w1, hw1⟩ : ∃ w1, w1 = w.alloc (.cells #[.int .i64 23, .int .i64 n, .int .i64 t, dv, ov, kv] 45) := ⟨_, rfl⟩
  have F1 := Lib.hid (show Fr [] w w1 by rw [hw1]; exact (Fr.refl [] w).alloc _)
  obtain ⟨_, _, c2, _, fz⟩ := (hg.keep F1.out).cells
  have f2 := fz 2
  rw [hw1] at c2 f2
  have HW := Lib.hid hw1
  clear hE hR hg fz hw1
  go_enter Try.func44, Try.ntmps44
  go_wp2_with fail
  go_end0
  exact HE.out _ ((Fr.refl [] w).alloc _)
end Go.Proofs.Ytdnepnnkpaoaaaa
