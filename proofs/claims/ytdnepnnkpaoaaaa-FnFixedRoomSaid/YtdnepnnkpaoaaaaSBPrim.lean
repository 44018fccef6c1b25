/- The contract of the reference's primitive. -/
import Derived.Test.YtdnepnnkpaoaaaaGSpecOid
import Derived.Test.YtdnepnnkpaoaaaaMC
namespace Go.Proofs.Ytdnepnnkpaoaaaa
open Go.RowKit
set_option linter.unusedVariables false

def EndsU (R : Ending → World → Prop) : Prop := ∀ e w, R e w → e = .returned (.tuple #[])
/-- What is asked of element, handed these contents. -/
def ElemG (g : Nat) (T : Int) (C : List Int) (w : World) (R : Ending → World → Prop) : Prop :=
  ∀ a' m c' w1, Fr [] w w1 → BIn w1 w1.heap.size a' C → C.length = m → Calls Try.prog 65 #[.pointer (some ⟨g, 0, none⟩), .int .i64 T, .slice a' m c'] w1 R

set_option maxRecDepth 100000 in
set_option maxHeartbeats 1600000 in
theorem sp12a (g : Nat) (n t : Int) (dv ov kv : Value) (w : World) (R : Ending → World → Prop) (hR : EndsU R) (hn : n = 1) (hE : ElemG g 1 [255] w R) :
    Calls Try.prog 66 #[.pointer (some ⟨g, 0, none⟩), .agg #[.int .i64 12, .int .i64 n, .int .i64 t, dv, ov, kv]] w R := by
  subst hn
  have HR := Lib.hid hR
  have HE := Lib.hid (show Calls Try.prog 65 #[.pointer (some ⟨g, 0, none⟩), .int .i64 1, .slice (some ⟨w.heap.size + 1, 0, none⟩) 1 1] ((w.alloc (.cells #[.int .i64 12, .int .i64 1, .int .i64 t, dv, ov, kv] 45)).alloc (.cells #[.int .u8 255] 5)) R by
    refine hE _ 1 1 _ (((Fr.refl [] w).alloc _).alloc _) ?_ rfl
    have := (lit_bin (w.alloc (.cells #[.int .i64 12, .int .i64 1, .int .i64 t, dv, ov, kv] 45)) [255] #[.int .u8 255] 1 rfl rfl (by omega)).lt
    simpa using this)
  clear hE hR
  go_enter Try.func66, Try.ntmps66
  go_wp2_with fail
  refine HE.out.mono ?_
  intro e w9 hq
  obtain rfl := HR.out _ _ hq
  have hq' := Lib.hid hq
  clear hq
  go_wp2_with fail
  go_end0
  exact hq'.out

set_option maxRecDepth 100000 in
set_option maxHeartbeats 1600000 in
theorem sp12b (g : Nat) (n t : Int) (dv ov kv : Value) (w : World) (R : Ending → World → Prop) (hR : EndsU R) (hn : n ≠ 1) (hE : ElemG g 1 [0] w R) :
    Calls Try.prog 66 #[.pointer (some ⟨g, 0, none⟩), .agg #[.int .i64 12, .int .i64 n, .int .i64 t, dv, ov, kv]] w R := by
  have hn' : (n == 1) = false := by simpa using hn
  clear hn
  have HR := Lib.hid hR
  have HE := Lib.hid (show Calls Try.prog 65 #[.pointer (some ⟨g, 0, none⟩), .int .i64 1, .slice (some ⟨w.heap.size + 1, 0, none⟩) 1 1] ((w.alloc (.cells #[.int .i64 12, .int .i64 n, .int .i64 t, dv, ov, kv] 45)).alloc (.cells #[.int .u8 0] 5)) R by
    refine hE _ 1 1 _ (((Fr.refl [] w).alloc _).alloc _) ?_ rfl
    have := (lit_bin (w.alloc (.cells #[.int .i64 12, .int .i64 n, .int .i64 t, dv, ov, kv] 45)) [0] #[.int .u8 0] 1 rfl rfl (by omega)).lt
    simpa using this)
  clear hE hR
  go_enter Try.func66, Try.ntmps66
  go_wp2_with fail
  refine HE.out.mono ?_
  intro e w9 hq
  obtain rfl := HR.out _ _ hq
  have hq' := Lib.hid hq
  clear hq
  go_wp2_with fail
  go_end0
  exact hq'.out

set_option maxRecDepth 100000 in
set_option maxHeartbeats 1600000 in
theorem sp13 (g : Nat) (n t : Int) (dv ov kv : Value) (w : World) (R : Ending → World → Prop) (hR : EndsU R) (h1 : -9223372036854775808 ≤ n) (h2 : n ≤ 9223372036854775807) (hE : ElemG g 2 (intC n) w R) :
    Calls Try.prog 66 #[.pointer (some ⟨g, 0, none⟩), .agg #[.int .i64 13, .int .i64 n, .int .i64 t, dv, ov, kv]] w R := by
  have HC := Lib.hid (fun w1 => intContents_any n w1 h1 h2)
  have HE := Lib.hid hE
  have HR := Lib.hid hR
  obtain ⟨C, hC⟩ : ∃ C, C = intC n := ⟨_, rfl⟩
  rw [← hC] at HC HE
  clear hE hR h1 h2 hC
  go_enter Try.func66, Try.ntmps66
  go_wp2_with fail
  refine (HC.out _).mono ?_
  rintro e w2 ⟨a3, c3, rfl, q1, q2, q3, q4, q5⟩
  have HE2 := Lib.hid (HE.out a3 C.length c3 w2 (((Fr.refl [] w).alloc _).trans (Fr.of_below q4 []) (by simp)) q3 rfl)
  clear q1 q2 q3 q4 q5
  go_wp2_with fail
  refine HE2.out.mono ?_
  intro e w9 hq
  obtain rfl := HR.out _ _ hq
  have hq' := Lib.hid hq
  clear hq
  go_wp2_with fail
  go_end0
  exact hq'.out

set_option maxRecDepth 100000 in
set_option maxHeartbeats 1600000 in
theorem sp15 (g : Nat) (n t : Int) (dv ov kv : Value) (w : World) (R : Ending → World → Prop) (hR : EndsU R) (h1 : -9223372036854775808 ≤ n) (h2 : n ≤ 9223372036854775807) (hE : ElemG g 2 (uintC (n % 18446744073709551616)) w R) :
    Calls Try.prog 66 #[.pointer (some ⟨g, 0, none⟩), .agg #[.int .i64 15, .int .i64 n, .int .i64 t, dv, ov, kv]] w R := by
  have HC := Lib.hid (fun w1 => uintContents_any (n % 18446744073709551616) w1 (by omega) (by omega))
  have HE := Lib.hid hE
  have HR := Lib.hid hR
  obtain ⟨C, hC⟩ : ∃ C, C = uintC (n % 18446744073709551616) := ⟨_, rfl⟩
  rw [← hC] at HC HE
  clear hE hR h1 h2 hC
  go_enter Try.func66, Try.ntmps66
  go_wp2_with fail
  refine (HC.out _).mono ?_
  rintro e w2 ⟨a3, c3, rfl, q1, q2, q3, q4, q5⟩
  have HE2 := Lib.hid (HE.out a3 C.length c3 w2 (((Fr.refl [] w).alloc _).trans (Fr.of_below q4 []) (by simp)) q3 rfl)
  clear q1 q2 q3 q4 q5
  go_wp2_with fail
  refine HE2.out.mono ?_
  intro e w9 hq
  obtain rfl := HR.out _ _ hq
  have hq' := Lib.hid hq
  clear hq
  go_wp2_with fail
  go_end0
  exact hq'.out

set_option maxRecDepth 100000 in
set_option maxHeartbeats 1600000 in
theorem sp16 (g : Nat) (n t : Int) (dv ov kv : Value) (w : World) (R : Ending → World → Prop) (hR : EndsU R) (h1 : -9223372036854775808 ≤ n) (h2 : n ≤ 9223372036854775807) (hE : ElemG g 10 (intC n) w R) :
    Calls Try.prog 66 #[.pointer (some ⟨g, 0, none⟩), .agg #[.int .i64 16, .int .i64 n, .int .i64 t, dv, ov, kv]] w R := by
  have HC := Lib.hid (fun w1 => intContents_any n w1 h1 h2)
  have HE := Lib.hid hE
  have HR := Lib.hid hR
  obtain ⟨C, hC⟩ : ∃ C, C = intC n := ⟨_, rfl⟩
  rw [← hC] at HC HE
  clear hE hR h1 h2 hC
  go_enter Try.func66, Try.ntmps66
  go_wp2_with fail
  refine (HC.out _).mono ?_
  rintro e w2 ⟨a3, c3, rfl, q1, q2, q3, q4, q5⟩
  have HE2 := Lib.hid (HE.out a3 C.length c3 w2 (((Fr.refl [] w).alloc _).trans (Fr.of_below q4 []) (by simp)) q3 rfl)
  clear q1 q2 q3 q4 q5
  go_wp2_with fail
  refine HE2.out.mono ?_
  intro e w9 hq
  obtain rfl := HR.out _ _ hq
  have hq' := Lib.hid hq
  clear hq
  go_wp2_with fail
  go_end0
  exact hq'.out

set_option maxRecDepth 100000 in
set_option maxHeartbeats 1600000 in
theorem sp14 (g : Nat) (n t : Int) (dv ov kv : Value) (w : World) (R : Ending → World → Prop) (hR : EndsU R) (h1 : -9223372036854775808 ≤ n) (h2 : n ≤ 9223372036854775807) (hE : ElemG g t (intC n) w R) :
    Calls Try.prog 66 #[.pointer (some ⟨g, 0, none⟩), .agg #[.int .i64 14, .int .i64 n, .int .i64 t, dv, ov, kv]] w R := by
  have HC := Lib.hid (fun w1 => intContents_any n w1 h1 h2)
  have HE := Lib.hid hE
  have HR := Lib.hid hR
  obtain ⟨C, hC⟩ : ∃ C, C = intC n := ⟨_, rfl⟩
  rw [← hC] at HC HE
  clear hE hR h1 h2 hC
  go_enter Try.func66, Try.ntmps66
  go_wp2_with fail
  obtain ⟨w1, hw1⟩ : ∃ w1, w1 = w.alloc (.cells #[.int .i64 14, .int .i64 n, .int .i64 t, dv, ov, kv] 45) := ⟨_, rfl⟩
  rw [← hw1]
  have b1 : Blk w1 w.heap.size 45 #[.int .i64 14, .int .i64 n, .int .i64 t, dv, ov, kv] := by rw [hw1]; exact Blk.new _ _ _
  have F1 := Lib.hid (show Fr [] w w1 by rw [hw1]; exact (Fr.refl [] w).alloc _)
  obtain ⟨q, hqd⟩ : ∃ q, q = w.heap.size := ⟨_, rfl⟩
  have Hqd := Lib.hid hqd
  rw [← hqd] at b1 ⊢
  have d1 : w1.cell? ⟨q, 1, none⟩ = some (.int .i64 n) := b1.cell 1
  have d2 : w1.cell? ⟨q, 2, none⟩ = some (.int .i64 t) := b1.cell 2
  have B1 := Lib.hid b1
  clear hw1 b1 hqd
  go_region_law ((first
    | (refine step_go_call1 (f := 96) (args := #[.int .i64 n]) rfl (by simp [go_sem]) (HC.out _) ?_; rintro e w2 ⟨a3, c3, rfl, q1, q2, q3, q4, q5⟩; refine ⟨_, rfl, ?_⟩; have F2 := Lib.hid (show Fr [] w1 w2 from ((Fr.refl [] w1).drew).trans (Fr.of_below q4 []) (by simp)); have d2 : w2.cell? ⟨q, 2, none⟩ = some (.int .i64 t) := (F2.out.blk B1.out (by simp)).cell 2; have HE2 := Lib.hid (HE.out a3 C.length c3 w2 (F1.out.trans F2.out (by simp)) q3 rfl); clear q1 q2 q3 q4 q5)
    | (refine step_go_call2 (f := 65) rfl (by simp [go_sem]) HE2.out (fun e w' h => .inl (HR.out e w' h)) (fun ch w' h => by have := HR.out _ _ h; cases this) ?_; intro w9 hq9; have Hq9 := Lib.hid hq9; clear hq9)))
  all_goals (
    go_simp
    go_wp2_with fail
    go_end0
    exact Hq9.out)

set_option maxRecDepth 100000 in
set_option maxHeartbeats 1600000 in
theorem sp17 (g : Nat) (n t : Int) (dv ov kv : Value) (w : World) (R : Ending → World → Prop) (hR : EndsU R) (hE : ElemG g 5 [] w R) :
    Calls Try.prog 66 #[.pointer (some ⟨g, 0, none⟩), .agg #[.int .i64 17, .int .i64 n, .int .i64 t, dv, ov, kv]] w R := by
  have HE := Lib.hid hE
  have HR := Lib.hid hR
  clear hE hR
  go_enter Try.func66, Try.ntmps66
  go_wp2_with fail
  refine (HE.out none 0 0 _ ((Fr.refl [] w).alloc _) (BIn.nil _ _ _) rfl).mono ?_
  intro e w9 hq
  obtain rfl := HR.out _ _ hq
  have hq' := Lib.hid hq
  clear hq
  go_wp2_with fail
  go_end0
  exact hq'.out

set_option maxRecDepth 100000 in
set_option maxHeartbeats 1600000 in
theorem sp18 (g : Nat) (n t : Int) (d : List Int) (a : Option Addr) (m c : Nat) (ov kv : Value) (w : World) (R : Ending → World → Prop) (hR : EndsU R) (hm : d.length = m) (hd : BIn w w.heap.size a d) (hE : ElemG g 4 d w R) :
    Calls Try.prog 66 #[.pointer (some ⟨g, 0, none⟩), .agg #[.int .i64 18, .int .i64 n, .int .i64 t, .slice a m c, ov, kv]] w R := by
  have HE := Lib.hid hE
  have HR := Lib.hid hR
  have Hm := Lib.hid hm
  have Hd := Lib.hid hd
  clear hE hR hm hd
  go_enter Try.func66, Try.ntmps66
  go_wp2_with fail
  refine (HE.out a m c _ ((Fr.refl [] w).alloc _) (((Fr.refl [] w).alloc _).bin Hd.out (by simp)).lt Hm.out).mono ?_
  intro e w9 hq
  obtain rfl := HR.out _ _ hq
  have hq' := Lib.hid hq
  clear hq
  go_wp2_with fail
  go_end0
  exact hq'.out

set_option maxRecDepth 100000 in
set_option maxHeartbeats 1600000 in
theorem sp19 (g : Nat) (n t : Int) (d : List Int) (a : Option Addr) (m c : Nat) (ov kv : Value) (w : World) (R : Ending → World → Prop) (hR : EndsU R) (hm : d.length = m) (hm2 : m ≤ 16700000) (hd : BIn w w.heap.size a d) (hE : ElemG g 3 (0 :: d) w R) :
    Calls Try.prog 66 #[.pointer (some ⟨g, 0, none⟩), .agg #[.int .i64 19, .int .i64 n, .int .i64 t, .slice a m c, ov, kv]] w R := by
  obtain ⟨i0, hi0, hz0, hz1, hz2⟩ := info_parts u8_info
  have HE := Lib.hid hE
  have HR := Lib.hid hR
  have Hm := Lib.hid hm
  have Hd := Lib.hid hd
  have HC := Lib.hid (show [(0 : Int)].length + d.length ≤ 70368744177664 by simp; omega)
  clear hE hR hm hd hm2
  obtain ⟨w1, hw1⟩ : ∃ w1, w1 = w.alloc (.cells #[.int .i64 19, .int .i64 n, .int .i64 t, .slice a m c, ov, kv] 45) := ⟨_, rfl⟩
  have F1 := Lib.hid (show Fr [] w w1 by rw [hw1]; exact (Fr.refl [] w).alloc _)
  have L := Lib.hid (show OwnB (w1.alloc (.cells #[.int .u8 0] 5)) w1.heap.size 5 (.slice (some ⟨w1.heap.size, 0, none⟩) 1 1) [0] from OwnB.lit w1 w1.heap.size [0] #[.int .u8 0] 1 rfl rfl (Nat.le_refl _) (by omega))
  have S1 := Lib.hid (show BIn (w1.alloc (.cells #[.int .u8 0] 5)) w.heap.size a d from ((F1.out.bin Hd.out (by simp)).keep (fun p hp => World.cell?_of_block (((Fr.refl [] w1).alloc _).block _ (by have := F1.out.size; omega) (by simp)))))
  have HW1 := Lib.hid hw1
  have Z := Lib.hid (show w1.heap.size ≤ (w1.alloc (.cells #[.int .u8 0] 5)).heap.size by simp)
  have es : w1.heap.size = w.heap.size + 1 := by rw [hw1]; simp
  rw [es] at L Z
  rw [hw1] at L S1 Z
  clear hw1 es
  go_enter Try.func66, Try.ntmps66
  go_wp2_with (at_builtin; go_must (refine wpList_append_bytes _ rfl (.tmp 61) (.tmp 63) _ rfl _ 5 i0 _ Try.underlying22 hi0 hz0 hz1 hz2 rfl (.slice (some ⟨w.heap.size + 1, 0, none⟩) 1 1) [0] rfl L.out _ a m c d Hm.out rfl S1.out HC.out Z.out ?_; intro A' c' w2 hown hg1 hat; have F2 := Lib.hid ((((Fr.refl [] w).alloc _).alloc _).grown hg1 (fun k hk => .inr (by simp [Value.ownBlock] at hk; omega))); have HE2 := Lib.hid (HE.out A' (1 + m) c' w2 F2.out (hown.bin (by simp [Hm.out]; omega)) (by simp [Hm.out]; omega)); clear hown hg1 hat))
  refine HE2.out.mono ?_
  intro e w9 hq
  obtain rfl := HR.out _ _ hq
  have hq' := Lib.hid hq
  clear hq
  go_wp2_with fail
  go_end0
  exact hq'.out

set_option maxRecDepth 100000 in
set_option maxHeartbeats 1600000 in
theorem sp20a (g : Nat) (n t : Int) (d : List Int) (a : Option Addr) (m c : Nat) (dv kv : Value) (w : World) (R : Ending → World → Prop) (hR : EndsU R) (hm : d.length = m) (hm2 : m ≤ 1000000) (hd : IIn w w.heap.size a d) (hok : oidR d = true) (hs : Small d) (hE : ElemG g 6 (oidB d) w R) :
    Calls Try.prog 66 #[.pointer (some ⟨g, 0, none⟩), .agg #[.int .i64 20, .int .i64 n, .int .i64 t, dv, .slice a m c, kv]] w R := by
  have HE := Lib.hid hE
  have HR := Lib.hid hR
  have HV := Lib.hid (fun (w1 : World) (hf : Fr [] w w1) => oidRight_any a m c d w1 hm ((hf.iin hd (by simp)).lt) (by omega))
  have HC := Lib.hid (fun (w1 : World) (hf : Fr [] w w1) => oidContents_any d a m c w1 hm ((hf.iin hd (by simp)).lt) hm2 (by rw [← oidR_iff hs]; exact hok) hs)
  rw [hok] at HV
  obtain ⟨C, hC⟩ : ∃ C, C = oidB d := ⟨_, rfl⟩
  rw [← hC] at HC HE
  clear hE hR hm hd hok hs hC
  go_enter Try.func66, Try.ntmps66
  go_wp2_with fail
  refine (HV.out _ ((Fr.refl [] w).alloc _)).mono ?_
  rintro e w1 ⟨rfl, rfl⟩
  go_wp2_with fail
  refine (HC.out _ ((Fr.refl [] w).alloc _)).mono ?_
  rintro e w2 ⟨a3, c3, rfl, q1, q2, q3, q4, q5⟩
  have HE2 := Lib.hid (HE.out a3 C.length c3 w2 (((Fr.refl [] w).alloc _).trans (Fr.of_below q4 []) (by simp)) q3 rfl)
  clear q1 q2 q3 q4 q5
  go_wp2_with fail
  refine HE2.out.mono ?_
  intro e w9 hq
  obtain rfl := HR.out _ _ hq
  have hq' := Lib.hid hq
  clear hq
  go_wp2_with fail
  go_end0
  exact hq'.out

set_option maxRecDepth 100000 in
set_option maxHeartbeats 1600000 in
theorem sp20b (g : Nat) (n t : Int) (d : List Int) (a : Option Addr) (m c : Nat) (dv kv : Value) (w : World) (R : Ending → World → Prop) (hR : EndsU R) (hm : d.length = m) (hm2 : m ≤ 1000000) (hd : IIn w w.heap.size a d) (hok : oidR d = false) (base : Nat) (s : PB) (rb : Option Nat) (hg : SB w base g s rb) (hE : ∀ w1, Fr [] w w1 → R (.returned (.tuple #[])) (w1.setCell ⟨g, 2, none⟩ (.bool true))) :
    Calls Try.prog 66 #[.pointer (some ⟨g, 0, none⟩), .agg #[.int .i64 20, .int .i64 n, .int .i64 t, dv, .slice a m c, kv]] w R := by
  have HE := Lib.hid hE
  have HR := Lib.hid hR
  have HV := Lib.hid (fun (w1 : World) (hf : Fr [] w w1) => oidRight_any a m c d w1 hm ((hf.iin hd (by simp)).lt) (by omega))
  rw [hok] at HV
  obtain ⟨w1, hw1⟩ : ∃ w1, w1 = w.alloc (.cells #[.int .i64 20, .int .i64 n, .int .i64 t, dv, .slice a m c, kv] 45) := ⟨_, rfl⟩
  have F1 := Lib.hid (show Fr [] w w1 by rw [hw1]; exact (Fr.refl [] w).alloc _)
  obtain ⟨_, _, c2, _, fz⟩ := (hg.keep F1.out).cells
  have f2 := fz 2
  rw [hw1] at c2 f2
  have HW := Lib.hid hw1
  clear hE hR hm hd hok hg fz hw1
  go_enter Try.func66, Try.ntmps66
  go_wp2_with fail
  refine (HV.out _ ((Fr.refl [] w).alloc _)).mono ?_
  rintro e w1 ⟨rfl, rfl⟩
  go_wp2_with fail
  go_end0
  exact HE.out _ ((Fr.refl [] w).alloc _)

theorem EndsU.post {base g : Nat} {s : PB} {rb : Option Nat} {w : World} : EndsU (SPost base g s rb w) := fun e w' h => h.1
set_option maxHeartbeats 800000 in
theorem sPrim (base g : Nat) (s : PB) (rb : Option Nat) (kd n t : Int) (d o : List Int) (a3 a4 : Option Addr) (c3 c4 : Nat) (kv : Value) (w : World) (hg : SB w base g s rb) (hk1 : 12 ≤ kd) (hk2 : kd ≤ 20) (hn : -9223372036854775808 ≤ n ∧ n ≤ 9223372036854775807) (t0 : 0 ≤ t) (t1 : t ≤ 255) (hs : Small o)
    (hd : BIn w w.heap.size a3 d) (ho : IIn w w.heap.size a4 o) (hl : s.out.length + (16 + d.length + 9 * o.length) ≤ Mx) (hb : base ≤ w.heap.size) :
    Calls Try.prog 66 #[.pointer (some ⟨g, 0, none⟩), .agg #[.int .i64 kd, .int .i64 n, .int .i64 t, .slice a3 d.length c3, .slice a4 o.length c4, kv]] w (SPost base g (s.prim kd n t d o) rb w) := by
  have hMx : Mx = 2000000 := rfl
  have EL : ∀ (t' : Int) (C : List Int), primC kd n t d o = some (t', C) → 0 ≤ t' → t' < 256 → ElemG g t' C w (SPost base g (s.prim kd n t d o) rb w) := by
    intro t' C hp h0 h1 a' m c' w1 hf hbn hm
    have hlen := primC_len hs hp
    have := sElement base g s rb t' C a' m c' w1 (hg.keep hf) h0 h1 hm hbn (by omega) (Nat.le_trans hb hf.size)
    rw [show s.prim kd n t d o = s.element t' C by unfold PB.prim; rw [hp]]
    exact this.mono fun e w' h => SPost.from_ (hf.mono (by simp)) h
  have hcase : kd = 12 ∨ kd = 13 ∨ kd = 14 ∨ kd = 15 ∨ kd = 16 ∨ kd = 17 ∨ kd = 18 ∨ kd = 19 ∨ kd = 20 := by omega
  rcases hcase with rfl | rfl | rfl | rfl | rfl | rfl | rfl | rfl | rfl
  · by_cases h1 : n = 1
    · exact sp12a g n t _ _ _ w _ EndsU.post h1 (EL _ _ (by simp [primC, h1]) (by decide) (by decide))
    · exact sp12b g n t _ _ _ w _ EndsU.post h1 (EL _ _ (by simp [primC, h1]) (by decide) (by decide))
  · exact sp13 g n t _ _ _ w _ EndsU.post hn.1 hn.2 (EL _ _ (by simp [primC, intC]) (by decide) (by decide))
  · exact sp14 g n t _ _ _ w _ EndsU.post hn.1 hn.2 (EL _ _ (by simp [primC, intC]) t0 (by omega))
  · exact sp15 g n t _ _ _ w _ EndsU.post hn.1 hn.2 (EL _ _ (by simp [primC, uintC]) (by decide) (by decide))
  · exact sp16 g n t _ _ _ w _ EndsU.post hn.1 hn.2 (EL _ _ (by simp [primC, intC]) (by decide) (by decide))
  · exact sp17 g n t _ _ _ w _ EndsU.post (EL _ _ (by simp [primC]) (by decide) (by decide))
  · exact sp18 g n t d a3 _ c3 _ _ w _ EndsU.post rfl hd (EL _ _ (by simp [primC]) (by decide) (by decide))
  · exact sp19 g n t d a3 _ c3 _ _ w _ EndsU.post rfl (by omega) hd (EL _ _ (by simp [primC]) (by decide) (by decide))
  · cases hR : oidR o
    · refine sp20b g n t o a4 _ c4 _ _ w _ EndsU.post rfl (by omega) ho hR base s rb hg fun w1 hf => ?_
      rw [show s.prim 20 n t d o = { s with failed := true } by unfold PB.prim primC; simp [hR, PB.fail]]
      exact SPost.from_ (hf.mono (by simp)) ((hg.keep hf).post2 true)
    · exact sp20a g n t o a4 _ c4 _ _ w _ EndsU.post rfl (by omega) ho hR hs (EL _ _ (by simp [primC, hR]) (by decide) (by decide))
end Go.Proofs.Ytdnepnnkpaoaaaa
