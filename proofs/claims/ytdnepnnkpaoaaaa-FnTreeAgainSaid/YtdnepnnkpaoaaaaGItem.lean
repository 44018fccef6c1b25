/- The thin package's steps, kind by kind: each ends as the builder's method within it ends. (Printed by gen_gitem.py.) -/
import Derived.Test.YtdnepnnkpaoaaaaGGood
import Derived.Test.YtdnepnnkpaoaaaaGIntA
import Derived.Deep.RegionLaw
namespace Go.Proofs.Ytdnepnnkpaoaaaa
open Go.RowKit
set_option linter.unusedVariables false

theorem int_infoG : (Try.prog.info? 3).map (fun i => (i.zero, i.size, i.bytes)) = some (some (.int .i64 0), 1, 8) := by kernel_rfl
/-- A call of a Go function as one step of a region that draws: it returns, or panics. -/
theorem step_go_call2 {P : Program} {ops : Array Oper} {o : Oper} {a : Act} {w : World} {K : Act → World → Prop} {Q : Exit → Act → World → Prop} {E : Prop} (hgd : o.guard = none) {f : FuncId} {args : Array Value}
    (hx : (execOp a.eval o).run P w = .ok (.enter f args) w) {R : Ending → World → Prop} (hc : Calls P f args w R) (hR : Ends R) (hp : ∀ ch w', R (.panicked ch) w' → Q (.panic ch) a w') (hk : ∀ w', R (.returned (.tuple #[])) w' → K (a.put o.dst (.tuple #[])) w') :
    if Region.wanted o (yielded ops a.tmps) = true then Oper.wp P o a w K Q else E := by
  have hw : Region.wanted o (yielded ops a.tmps) = true := by simp [Region.wanted, hgd]
  rw [if_pos hw]
  unfold Oper.wp
  rw [hx]
  refine hc.mono fun e w' h => ?_
  rcases hR e w' h with rfl | ⟨t, u, rfl⟩
  · exact hk w' h
  · exact hp _ w' h
theorem step_go_call1 {P : Program} {ops : Array Oper} {o : Oper} {a : Act} {w : World} {K : Act → World → Prop} {Q : Exit → Act → World → Prop} {E : Prop} (hgd : o.guard = none) {f : FuncId} {args : Array Value}
    (hx : (execOp a.eval o).run P w = .ok (.enter f args) w) {R : Ending → World → Prop} (hc : Calls P f args w R) (hk : ∀ e w', R e w' → ∃ v, e = .returned v ∧ K (a.put o.dst v) w') :
    if Region.wanted o (yielded ops a.tmps) = true then Oper.wp P o a w K Q else E := by
  have hw : Region.wanted o (yielded ops a.tmps) = true := by simp [Region.wanted, hgd]
  rw [if_pos hw]
  unfold Oper.wp
  rw [hx]
  refine hc.mono fun e w' h => ?_
  obtain ⟨v, rfl, hv⟩ := hk e w' h
  exact hv

theorem within_any (a : Option Addr) (m c : Nat) (w : World) : Calls Try.prog 75 #[.slice a m c] w fun e w' => e = .returned (.func (.func 99) #[] #[.pointer (some ⟨w.heap.size, 0, none⟩)]) ∧ w' = w.alloc (.cells #[.slice a m c] 23) := by
  have hmf : ∀ (fn : Fn) (first cap : Array Value) (w : World), (Instr.makeFunc fn first cap).run Try.prog w = .ok (.func fn first cap) w := fun _ _ _ _ => rfl
  go_enter Try.func75, Try.ntmps75
  go_wp2_with fail
  go_ret
  exact ⟨rfl, rfl⟩

set_option maxRecDepth 100000 in
set_option maxHeartbeats 1600000 in
theorem k0 (g : Nat) (n t : Int) (dv ov kv : Value) (w : World) (R : Ending → World → Prop) (hR : Ends R)
    (h : ∀ w1, Fr [] w w1 → Calls Try.prog 58 #[.pointer (some ⟨g, 0, none⟩), .int .u8 (n % 256)] w1 R) :
    Calls Try.prog 45 #[.pointer (some ⟨g, 0, none⟩), .agg #[.int .i64 0, .int .i64 n, .int .i64 t, dv, ov, kv]] w R := by
  have H := Lib.hid h
  have HR := Lib.hid hR
  clear h hR
  go_enter Try.func45, Try.ntmps45
  go_wp2_with fail
  refine (H.out _ ((Fr.refl [] w).alloc _)).mono ?_
  intro e w9 hq
  rcases HR.out e w9 hq with rfl | ⟨t9, u9, rfl⟩
  · have hq' := Lib.hid hq
    clear hq
    go_wp2_with fail
    first | go_end0 | refine bodyPost_ret (results_none rfl _ _ _) rfl ?_
    exact hq'.out
  · exact ⟨rfl, hq⟩

set_option maxRecDepth 100000 in
set_option maxHeartbeats 1600000 in
theorem k1 (g : Nat) (n t : Int) (dv ov kv : Value) (w : World) (R : Ending → World → Prop) (hR : Ends R)
    (h : ∀ w1, Fr [] w w1 → Calls Try.prog 69 #[.pointer (some ⟨g, 0, none⟩), .int .u16 (n % 65536)] w1 R) :
    Calls Try.prog 45 #[.pointer (some ⟨g, 0, none⟩), .agg #[.int .i64 1, .int .i64 n, .int .i64 t, dv, ov, kv]] w R := by
  have H := Lib.hid h
  have HR := Lib.hid hR
  clear h hR
  go_enter Try.func45, Try.ntmps45
  go_wp2_with fail
  refine (H.out _ ((Fr.refl [] w).alloc _)).mono ?_
  intro e w9 hq
  rcases HR.out e w9 hq with rfl | ⟨t9, u9, rfl⟩
  · have hq' := Lib.hid hq
    clear hq
    go_wp2_with fail
    first | go_end0 | refine bodyPost_ret (results_none rfl _ _ _) rfl ?_
    exact hq'.out
  · exact ⟨rfl, hq⟩

set_option maxRecDepth 100000 in
set_option maxHeartbeats 1600000 in
theorem k2 (g : Nat) (n t : Int) (dv ov kv : Value) (w : World) (R : Ending → World → Prop) (hR : Ends R)
    (h : ∀ w1, Fr [] w w1 → Calls Try.prog 70 #[.pointer (some ⟨g, 0, none⟩), .int .u32 (n % 4294967296)] w1 R) :
    Calls Try.prog 45 #[.pointer (some ⟨g, 0, none⟩), .agg #[.int .i64 2, .int .i64 n, .int .i64 t, dv, ov, kv]] w R := by
  have H := Lib.hid h
  have HR := Lib.hid hR
  clear h hR
  go_enter Try.func45, Try.ntmps45
  go_wp2_with fail
  refine (H.out _ ((Fr.refl [] w).alloc _)).mono ?_
  intro e w9 hq
  rcases HR.out e w9 hq with rfl | ⟨t9, u9, rfl⟩
  · have hq' := Lib.hid hq
    clear hq
    go_wp2_with fail
    first | go_end0 | refine bodyPost_ret (results_none rfl _ _ _) rfl ?_
    exact hq'.out
  · exact ⟨rfl, hq⟩

set_option maxRecDepth 100000 in
set_option maxHeartbeats 1600000 in
theorem k3 (g : Nat) (n t : Int) (dv ov kv : Value) (w : World) (R : Ending → World → Prop) (hR : Ends R)
    (h : ∀ w1, Fr [] w w1 → Calls Try.prog 71 #[.pointer (some ⟨g, 0, none⟩), .int .u32 (n % 4294967296)] w1 R) :
    Calls Try.prog 45 #[.pointer (some ⟨g, 0, none⟩), .agg #[.int .i64 3, .int .i64 n, .int .i64 t, dv, ov, kv]] w R := by
  have H := Lib.hid h
  have HR := Lib.hid hR
  clear h hR
  go_enter Try.func45, Try.ntmps45
  go_wp2_with fail
  refine (H.out _ ((Fr.refl [] w).alloc _)).mono ?_
  intro e w9 hq
  rcases HR.out e w9 hq with rfl | ⟨t9, u9, rfl⟩
  · have hq' := Lib.hid hq
    clear hq
    go_wp2_with fail
    first | go_end0 | refine bodyPost_ret (results_none rfl _ _ _) rfl ?_
    exact hq'.out
  · exact ⟨rfl, hq⟩

set_option maxRecDepth 100000 in
set_option maxHeartbeats 1600000 in
theorem k4 (g : Nat) (n t : Int) (dv ov kv : Value) (w : World) (R : Ending → World → Prop) (hR : Ends R)
    (h : ∀ w1, Fr [] w w1 → Calls Try.prog 72 #[.pointer (some ⟨g, 0, none⟩), .int .u64 (n % 18446744073709551616)] w1 R) :
    Calls Try.prog 45 #[.pointer (some ⟨g, 0, none⟩), .agg #[.int .i64 4, .int .i64 n, .int .i64 t, dv, ov, kv]] w R := by
  have H := Lib.hid h
  have HR := Lib.hid hR
  clear h hR
  go_enter Try.func45, Try.ntmps45
  go_wp2_with fail
  refine (H.out _ ((Fr.refl [] w).alloc _)).mono ?_
  intro e w9 hq
  rcases HR.out e w9 hq with rfl | ⟨t9, u9, rfl⟩
  · have hq' := Lib.hid hq
    clear hq
    go_wp2_with fail
    first | go_end0 | refine bodyPost_ret (results_none rfl _ _ _) rfl ?_
    exact hq'.out
  · exact ⟨rfl, hq⟩

set_option maxRecDepth 100000 in
set_option maxHeartbeats 1600000 in
theorem k5 (g : Nat) (n t : Int) (dv ov kv : Value) (w : World) (R : Ending → World → Prop) (hR : Ends R)
    (h : ∀ w1, Fr [] w w1 → Calls Try.prog 73 #[.pointer (some ⟨g, 0, none⟩), .int .u64 (n % 18446744073709551616)] w1 R) :
    Calls Try.prog 45 #[.pointer (some ⟨g, 0, none⟩), .agg #[.int .i64 5, .int .i64 n, .int .i64 t, dv, ov, kv]] w R := by
  have H := Lib.hid h
  have HR := Lib.hid hR
  clear h hR
  go_enter Try.func45, Try.ntmps45
  go_wp2_with fail
  refine (H.out _ ((Fr.refl [] w).alloc _)).mono ?_
  intro e w9 hq
  rcases HR.out e w9 hq with rfl | ⟨t9, u9, rfl⟩
  · have hq' := Lib.hid hq
    clear hq
    go_wp2_with fail
    first | go_end0 | refine bodyPost_ret (results_none rfl _ _ _) rfl ?_
    exact hq'.out
  · exact ⟨rfl, hq⟩

set_option maxRecDepth 100000 in
set_option maxHeartbeats 1600000 in
theorem k6 (g : Nat) (W : World) (n t : Int) (ov kv : Value) (a : Option Addr) (m c : Nat) (d : List Int) (hm : d.length = m) (hd : BIn W W.heap.size a d) (hl : m ≤ 4194304000) (w : World) (hW : W = w) (R : Ending → World → Prop) (hR : Ends R)
    (h : ∀ a' c' w1, Fr [] w w1 → BIn w1 w1.heap.size a' d → (∀ b, a' = some b → w.heap.size ≤ b.block ∧ b.block < w1.heap.size) → Calls Try.prog 42 #[.pointer (some ⟨g, 0, none⟩), .slice a' m c'] w1 R) :
    Calls Try.prog 45 #[.pointer (some ⟨g, 0, none⟩), .agg #[.int .i64 6, .int .i64 n, .int .i64 t, .slice a m c, ov, kv]] w R := by
  have H := Lib.hid h
  have HR := Lib.hid hR
  clear h hR
  subst hW
  have C := Lib.hid (fun (w1 : World) (hf : Fr [] W w1) => copied_any a m c d w1 hm (hf.bin hd (by simp)).lt hl)
  clear hm hd
  go_enter Try.func45, Try.ntmps45
  go_wp2_with fail
  refine (C.out _ ((Fr.refl [] W).alloc _)).mono ?_
  rintro e w1 ⟨a1, c1, rfl, p1, p2, p3, p4, p5, p6⟩
  have hf1 : Fr [] W w1 := ((Fr.refl [] W).alloc _).trans (Fr.of_below p5 []) (by simp)
  have H1 := Lib.hid (H.out a1 c1 w1 hf1 p3 (fun b hb => by have := p6.lt b.block (by rw [hb]; rfl); simp at this; exact ⟨by omega, this.2⟩))
  clear p3 p4 p5 p6 hf1
  go_wp2_with fail
  refine H1.out.mono ?_
  intro e w9 hq
  rcases HR.out e w9 hq with rfl | ⟨t9, u9, rfl⟩
  · have hq' := Lib.hid hq
    clear hq
    go_wp2_with fail
    first | go_end0 | refine bodyPost_ret (results_none rfl _ _ _) rfl ?_
    exact hq'.out
  · exact ⟨rfl, hq⟩

set_option maxRecDepth 100000 in
set_option maxHeartbeats 1600000 in
theorem k7 (g : Nat) (n t : Int) (dv ov : Value) (a5 : Option Addr) (m5 c5 : Nat) (w : World) (R : Ending → World → Prop) (hR : Ends R)
    (h : ∀ p w1, Fr [] w w1 → Blk w1 p 23 #[.slice a5 m5 c5] → w.heap.size ≤ p → Calls Try.prog 74 #[.pointer (some ⟨g, 0, none⟩), .func (.func 99) #[] #[.pointer (some ⟨p, 0, none⟩)]] w1 R) :
    Calls Try.prog 46 #[.pointer (some ⟨g, 0, none⟩), .agg #[.int .i64 7, .int .i64 n, .int .i64 t, dv, ov, .slice a5 m5 c5]] w R := by
  have H := Lib.hid h
  have HR := Lib.hid hR
  clear h hR
  go_enter Try.func46, Try.ntmps46
  go_wp2_with fail
  refine (within_any a5 m5 c5 _).mono ?_
  rintro e w1 ⟨rfl, rfl⟩
  have H1 := Lib.hid (H.out (w.heap.size + 1) _ (((Fr.refl [] w).alloc (.cells #[.int .i64 7, .int .i64 n, .int .i64 t, dv, ov, .slice a5 m5 c5] 45)).alloc (.cells #[.slice a5 m5 c5] 23)) (Blk.new' (by simp) _ _) (by simp))
  go_wp2_with fail
  refine H1.out.mono ?_
  intro e w9 hq
  rcases HR.out e w9 hq with rfl | ⟨t9, u9, rfl⟩
  · have hq' := Lib.hid hq
    clear hq
    go_wp2_with fail
    first | go_end0 | refine bodyPost_ret (results_none rfl _ _ _) rfl ?_
    exact hq'.out
  · exact ⟨rfl, hq⟩

set_option maxRecDepth 100000 in
set_option maxHeartbeats 1600000 in
theorem k8 (g : Nat) (n t : Int) (dv ov : Value) (a5 : Option Addr) (m5 c5 : Nat) (w : World) (R : Ending → World → Prop) (hR : Ends R)
    (h : ∀ p w1, Fr [] w w1 → Blk w1 p 23 #[.slice a5 m5 c5] → w.heap.size ≤ p → Calls Try.prog 76 #[.pointer (some ⟨g, 0, none⟩), .func (.func 99) #[] #[.pointer (some ⟨p, 0, none⟩)]] w1 R) :
    Calls Try.prog 46 #[.pointer (some ⟨g, 0, none⟩), .agg #[.int .i64 8, .int .i64 n, .int .i64 t, dv, ov, .slice a5 m5 c5]] w R := by
  have H := Lib.hid h
  have HR := Lib.hid hR
  clear h hR
  go_enter Try.func46, Try.ntmps46
  go_wp2_with fail
  refine (within_any a5 m5 c5 _).mono ?_
  rintro e w1 ⟨rfl, rfl⟩
  have H1 := Lib.hid (H.out (w.heap.size + 1) _ (((Fr.refl [] w).alloc (.cells #[.int .i64 8, .int .i64 n, .int .i64 t, dv, ov, .slice a5 m5 c5] 45)).alloc (.cells #[.slice a5 m5 c5] 23)) (Blk.new' (by simp) _ _) (by simp))
  go_wp2_with fail
  refine H1.out.mono ?_
  intro e w9 hq
  rcases HR.out e w9 hq with rfl | ⟨t9, u9, rfl⟩
  · have hq' := Lib.hid hq
    clear hq
    go_wp2_with fail
    first | go_end0 | refine bodyPost_ret (results_none rfl _ _ _) rfl ?_
    exact hq'.out
  · exact ⟨rfl, hq⟩

set_option maxRecDepth 100000 in
set_option maxHeartbeats 1600000 in
theorem k9 (g : Nat) (n t : Int) (dv ov : Value) (a5 : Option Addr) (m5 c5 : Nat) (w : World) (R : Ending → World → Prop) (hR : Ends R)
    (h : ∀ p w1, Fr [] w w1 → Blk w1 p 23 #[.slice a5 m5 c5] → w.heap.size ≤ p → Calls Try.prog 77 #[.pointer (some ⟨g, 0, none⟩), .func (.func 99) #[] #[.pointer (some ⟨p, 0, none⟩)]] w1 R) :
    Calls Try.prog 46 #[.pointer (some ⟨g, 0, none⟩), .agg #[.int .i64 9, .int .i64 n, .int .i64 t, dv, ov, .slice a5 m5 c5]] w R := by
  have H := Lib.hid h
  have HR := Lib.hid hR
  clear h hR
  go_enter Try.func46, Try.ntmps46
  go_wp2_with fail
  refine (within_any a5 m5 c5 _).mono ?_
  rintro e w1 ⟨rfl, rfl⟩
  have H1 := Lib.hid (H.out (w.heap.size + 1) _ (((Fr.refl [] w).alloc (.cells #[.int .i64 9, .int .i64 n, .int .i64 t, dv, ov, .slice a5 m5 c5] 45)).alloc (.cells #[.slice a5 m5 c5] 23)) (Blk.new' (by simp) _ _) (by simp))
  go_wp2_with fail
  refine H1.out.mono ?_
  intro e w9 hq
  rcases HR.out e w9 hq with rfl | ⟨t9, u9, rfl⟩
  · have hq' := Lib.hid hq
    clear hq
    go_wp2_with fail
    first | go_end0 | refine bodyPost_ret (results_none rfl _ _ _) rfl ?_
    exact hq'.out
  · exact ⟨rfl, hq⟩

set_option maxRecDepth 100000 in
set_option maxHeartbeats 1600000 in
theorem k10 (g : Nat) (n t : Int) (dv ov : Value) (a5 : Option Addr) (m5 c5 : Nat) (w : World) (R : Ending → World → Prop) (hR : Ends R)
    (h : ∀ p w1, Fr [] w w1 → Blk w1 p 23 #[.slice a5 m5 c5] → w.heap.size ≤ p → Calls Try.prog 78 #[.pointer (some ⟨g, 0, none⟩), .func (.func 99) #[] #[.pointer (some ⟨p, 0, none⟩)]] w1 R) :
    Calls Try.prog 46 #[.pointer (some ⟨g, 0, none⟩), .agg #[.int .i64 10, .int .i64 n, .int .i64 t, dv, ov, .slice a5 m5 c5]] w R := by
  have H := Lib.hid h
  have HR := Lib.hid hR
  clear h hR
  go_enter Try.func46, Try.ntmps46
  go_wp2_with fail
  refine (within_any a5 m5 c5 _).mono ?_
  rintro e w1 ⟨rfl, rfl⟩
  have H1 := Lib.hid (H.out (w.heap.size + 1) _ (((Fr.refl [] w).alloc (.cells #[.int .i64 10, .int .i64 n, .int .i64 t, dv, ov, .slice a5 m5 c5] 45)).alloc (.cells #[.slice a5 m5 c5] 23)) (Blk.new' (by simp) _ _) (by simp))
  go_wp2_with fail
  refine H1.out.mono ?_
  intro e w9 hq
  rcases HR.out e w9 hq with rfl | ⟨t9, u9, rfl⟩
  · have hq' := Lib.hid hq
    clear hq
    go_wp2_with fail
    first | go_end0 | refine bodyPost_ret (results_none rfl _ _ _) rfl ?_
    exact hq'.out
  · exact ⟨rfl, hq⟩

set_option maxRecDepth 100000 in
set_option maxHeartbeats 1600000 in
theorem k11 (g : Nat) (n t : Int) (dv ov : Value) (a5 : Option Addr) (m5 c5 : Nat) (w : World) (R : Ending → World → Prop) (hR : Ends R)
    (h : ∀ p w1, Fr [] w w1 → Blk w1 p 23 #[.slice a5 m5 c5] → w.heap.size ≤ p → Calls Try.prog 40 #[.pointer (some ⟨g, 0, none⟩), .int .u8 (t % 256), .func (.func 99) #[] #[.pointer (some ⟨p, 0, none⟩)]] w1 R) :
    Calls Try.prog 46 #[.pointer (some ⟨g, 0, none⟩), .agg #[.int .i64 11, .int .i64 n, .int .i64 t, dv, ov, .slice a5 m5 c5]] w R := by
  have H := Lib.hid h
  have HR := Lib.hid hR
  clear h hR
  go_enter Try.func46, Try.ntmps46
  go_wp2_with fail
  obtain ⟨w1, hw1⟩ : ∃ w1, w1 = w.alloc (.cells #[.int .i64 11, .int .i64 n, .int .i64 t, dv, ov, .slice a5 m5 c5] 45) := ⟨_, rfl⟩
  have f1 : Fr [] w w1 := by rw [hw1]; exact (Fr.refl [] w).alloc _
  have b1 : Blk w1 w.heap.size 45 #[.int .i64 11, .int .i64 n, .int .i64 t, dv, ov, .slice a5 m5 c5] := by rw [hw1]; exact Blk.new _ _ _
  rw [← hw1]
  obtain ⟨q, hq⟩ : ∃ q, q = w.heap.size := ⟨_, rfl⟩
  have Hq := Lib.hid hq
  rw [← hq] at b1 ⊢
  have ew : IntKind.u8.wrap t = t % 256 := by rw [IntKind.wrap_u8]
  have cc2 : w1.cell? ⟨q, 2, none⟩ = some (.int .i64 t) := b1.cell 2
  have cc5 : w1.cell? ⟨q, 5, none⟩ = some (.slice a5 m5 c5) := b1.cell 5
  have hql := b1.lt
  have F1 := Lib.hid f1
  have B1 := Lib.hid b1
  clear hw1 f1 b1 hq
  go_region_law ((first
    | (refine step_go_call1 (f := 75) (args := #[.slice a5 m5 c5]) rfl (by simp [go_sem]) (within_any a5 m5 c5 _) ?_; rintro e w2 ⟨rfl, h2⟩; refine ⟨_, rfl, ?_⟩; have F2 := Lib.hid (show Fr [] w1 w2 from by rw [h2]; exact ((Fr.refl [] w1).drew).alloc _); have p2 := Lib.hid (show Blk w2 _ 23 #[.slice a5 m5 c5] from by rw [h2]; exact Blk.new _ _ _); have d2 : w2.cell? ⟨q, 2, none⟩ = some (.int .i64 t) := (F2.out.blk B1.out (by simp)).cell 2; have Hh2 := Lib.hid h2; clear h2)
    | (refine step_go_call2 (f := 40) rfl (by simp [go_sem]) (H.out _ _ (F1.out.trans F2.out (by simp)) p2.out (by have := F1.out.size; simp; omega)) HR.out (fun ch w' h => ⟨rfl, h⟩) ?_; intro w9 hq9; have Hq9 := Lib.hid hq9; clear hq9)))
  all_goals (
    go_simp
    go_wp2_with fail
    first | go_end0 | refine bodyPost_ret (results_none rfl _ _ _) rfl ?_
    exact Hq9.out)

set_option maxRecDepth 100000 in
set_option maxHeartbeats 1600000 in
theorem k12 (g : Nat) (n t : Int) (dv ov kv : Value) (w : World) (R : Ending → World → Prop) (hR : Ends R)
    (h : ∀ w1, Fr [] w w1 → Calls Try.prog 79 #[.pointer (some ⟨g, 0, none⟩), .bool (n == 1)] w1 R) :
    Calls Try.prog 47 #[.pointer (some ⟨g, 0, none⟩), .agg #[.int .i64 12, .int .i64 n, .int .i64 t, dv, ov, kv]] w R := by
  have H := Lib.hid h
  have HR := Lib.hid hR
  clear h hR
  go_enter Try.func47, Try.ntmps47
  go_wp2_with fail
  refine (H.out _ ((Fr.refl [] w).alloc _)).mono ?_
  intro e w9 hq
  rcases HR.out e w9 hq with rfl | ⟨t9, u9, rfl⟩
  · have hq' := Lib.hid hq
    clear hq
    go_wp2_with fail
    first | go_end0 | refine bodyPost_ret (results_none rfl _ _ _) rfl ?_
    exact hq'.out
  · exact ⟨rfl, hq⟩

set_option maxRecDepth 100000 in
set_option maxHeartbeats 1600000 in
theorem k13 (g : Nat) (n t : Int) (dv ov kv : Value) (w : World) (R : Ending → World → Prop) (hR : Ends R)
    (h : ∀ w1, Fr [] w w1 → Calls Try.prog 80 #[.pointer (some ⟨g, 0, none⟩), .int .i64 n] w1 R) :
    Calls Try.prog 47 #[.pointer (some ⟨g, 0, none⟩), .agg #[.int .i64 13, .int .i64 n, .int .i64 t, dv, ov, kv]] w R := by
  have H := Lib.hid h
  have HR := Lib.hid hR
  clear h hR
  go_enter Try.func47, Try.ntmps47
  go_wp2_with fail
  refine (H.out _ ((Fr.refl [] w).alloc _)).mono ?_
  intro e w9 hq
  rcases HR.out e w9 hq with rfl | ⟨t9, u9, rfl⟩
  · have hq' := Lib.hid hq
    clear hq
    go_wp2_with fail
    first | go_end0 | refine bodyPost_ret (results_none rfl _ _ _) rfl ?_
    exact hq'.out
  · exact ⟨rfl, hq⟩

set_option maxRecDepth 100000 in
set_option maxHeartbeats 1600000 in
theorem k14 (g : Nat) (n t : Int) (dv ov kv : Value) (w : World) (R : Ending → World → Prop) (hR : Ends R)
    (h : ∀ w1, Fr [] w w1 → Calls Try.prog 81 #[.pointer (some ⟨g, 0, none⟩), .int .i64 n, .int .u8 (t % 256)] w1 R) :
    Calls Try.prog 47 #[.pointer (some ⟨g, 0, none⟩), .agg #[.int .i64 14, .int .i64 n, .int .i64 t, dv, ov, kv]] w R := by
  have H := Lib.hid h
  have HR := Lib.hid hR
  clear h hR
  go_enter Try.func47, Try.ntmps47
  go_wp2_with fail
  refine (H.out _ ((Fr.refl [] w).alloc _)).mono ?_
  intro e w9 hq
  rcases HR.out e w9 hq with rfl | ⟨t9, u9, rfl⟩
  · have hq' := Lib.hid hq
    clear hq
    go_wp2_with fail
    first | go_end0 | refine bodyPost_ret (results_none rfl _ _ _) rfl ?_
    exact hq'.out
  · exact ⟨rfl, hq⟩

set_option maxRecDepth 100000 in
set_option maxHeartbeats 1600000 in
theorem k15 (g : Nat) (n t : Int) (dv ov kv : Value) (w : World) (R : Ending → World → Prop) (hR : Ends R)
    (h : ∀ w1, Fr [] w w1 → Calls Try.prog 82 #[.pointer (some ⟨g, 0, none⟩), .int .u64 (n % 18446744073709551616)] w1 R) :
    Calls Try.prog 47 #[.pointer (some ⟨g, 0, none⟩), .agg #[.int .i64 15, .int .i64 n, .int .i64 t, dv, ov, kv]] w R := by
  have H := Lib.hid h
  have HR := Lib.hid hR
  clear h hR
  go_enter Try.func47, Try.ntmps47
  go_wp2_with fail
  refine (H.out _ ((Fr.refl [] w).alloc _)).mono ?_
  intro e w9 hq
  rcases HR.out e w9 hq with rfl | ⟨t9, u9, rfl⟩
  · have hq' := Lib.hid hq
    clear hq
    go_wp2_with fail
    first | go_end0 | refine bodyPost_ret (results_none rfl _ _ _) rfl ?_
    exact hq'.out
  · exact ⟨rfl, hq⟩

set_option maxRecDepth 100000 in
set_option maxHeartbeats 1600000 in
theorem k16 (g : Nat) (n t : Int) (dv ov kv : Value) (w : World) (R : Ending → World → Prop) (hR : Ends R)
    (h : ∀ w1, Fr [] w w1 → Calls Try.prog 83 #[.pointer (some ⟨g, 0, none⟩), .int .i64 n] w1 R) :
    Calls Try.prog 47 #[.pointer (some ⟨g, 0, none⟩), .agg #[.int .i64 16, .int .i64 n, .int .i64 t, dv, ov, kv]] w R := by
  have H := Lib.hid h
  have HR := Lib.hid hR
  clear h hR
  go_enter Try.func47, Try.ntmps47
  go_wp2_with fail
  refine (H.out _ ((Fr.refl [] w).alloc _)).mono ?_
  intro e w9 hq
  rcases HR.out e w9 hq with rfl | ⟨t9, u9, rfl⟩
  · have hq' := Lib.hid hq
    clear hq
    go_wp2_with fail
    first | go_end0 | refine bodyPost_ret (results_none rfl _ _ _) rfl ?_
    exact hq'.out
  · exact ⟨rfl, hq⟩

set_option maxRecDepth 100000 in
set_option maxHeartbeats 1600000 in
theorem k17 (g : Nat) (n t : Int) (dv ov kv : Value) (w : World) (R : Ending → World → Prop) (hR : Ends R)
    (h : ∀ w1, Fr [] w w1 → Calls Try.prog 84 #[.pointer (some ⟨g, 0, none⟩)] w1 R) :
    Calls Try.prog 47 #[.pointer (some ⟨g, 0, none⟩), .agg #[.int .i64 17, .int .i64 n, .int .i64 t, dv, ov, kv]] w R := by
  have H := Lib.hid h
  have HR := Lib.hid hR
  clear h hR
  go_enter Try.func47, Try.ntmps47
  go_wp2_with fail
  refine (H.out _ ((Fr.refl [] w).alloc _)).mono ?_
  intro e w9 hq
  rcases HR.out e w9 hq with rfl | ⟨t9, u9, rfl⟩
  · have hq' := Lib.hid hq
    clear hq
    go_wp2_with fail
    first | go_end0 | refine bodyPost_ret (results_none rfl _ _ _) rfl ?_
    exact hq'.out
  · exact ⟨rfl, hq⟩

set_option maxRecDepth 100000 in
set_option maxHeartbeats 1600000 in
theorem k18 (g : Nat) (W : World) (n t : Int) (ov kv : Value) (a : Option Addr) (m c : Nat) (d : List Int) (hm : d.length = m) (hd : BIn W W.heap.size a d) (hl : m ≤ 4194304000) (w : World) (hW : W = w) (R : Ending → World → Prop) (hR : Ends R)
    (h : ∀ a' c' w1, Fr [] w w1 → BIn w1 w1.heap.size a' d → (∀ b, a' = some b → w.heap.size ≤ b.block ∧ b.block < w1.heap.size) → Calls Try.prog 85 #[.pointer (some ⟨g, 0, none⟩), .slice a' m c'] w1 R) :
    Calls Try.prog 47 #[.pointer (some ⟨g, 0, none⟩), .agg #[.int .i64 18, .int .i64 n, .int .i64 t, .slice a m c, ov, kv]] w R := by
  have H := Lib.hid h
  have HR := Lib.hid hR
  clear h hR
  subst hW
  have C := Lib.hid (fun (w1 : World) (hf : Fr [] W w1) => copied_any a m c d w1 hm (hf.bin hd (by simp)).lt hl)
  clear hm hd
  go_enter Try.func47, Try.ntmps47
  go_wp2_with fail
  refine (C.out _ ((Fr.refl [] W).alloc _)).mono ?_
  rintro e w1 ⟨a1, c1, rfl, p1, p2, p3, p4, p5, p6⟩
  have hf1 : Fr [] W w1 := ((Fr.refl [] W).alloc _).trans (Fr.of_below p5 []) (by simp)
  have H1 := Lib.hid (H.out a1 c1 w1 hf1 p3 (fun b hb => by have := p6.lt b.block (by rw [hb]; rfl); simp at this; exact ⟨by omega, this.2⟩))
  clear p3 p4 p5 p6 hf1
  go_wp2_with fail
  refine H1.out.mono ?_
  intro e w9 hq
  rcases HR.out e w9 hq with rfl | ⟨t9, u9, rfl⟩
  · have hq' := Lib.hid hq
    clear hq
    go_wp2_with fail
    first | go_end0 | refine bodyPost_ret (results_none rfl _ _ _) rfl ?_
    exact hq'.out
  · exact ⟨rfl, hq⟩

set_option maxRecDepth 100000 in
set_option maxHeartbeats 1600000 in
theorem k19 (g : Nat) (W : World) (n t : Int) (ov kv : Value) (a : Option Addr) (m c : Nat) (d : List Int) (hm : d.length = m) (hd : BIn W W.heap.size a d) (hl : m ≤ 4194304000) (w : World) (hW : W = w) (R : Ending → World → Prop) (hR : Ends R)
    (h : ∀ a' c' w1, Fr [] w w1 → BIn w1 w1.heap.size a' d → (∀ b, a' = some b → w.heap.size ≤ b.block ∧ b.block < w1.heap.size) → Calls Try.prog 86 #[.pointer (some ⟨g, 0, none⟩), .slice a' m c'] w1 R) :
    Calls Try.prog 47 #[.pointer (some ⟨g, 0, none⟩), .agg #[.int .i64 19, .int .i64 n, .int .i64 t, .slice a m c, ov, kv]] w R := by
  have H := Lib.hid h
  have HR := Lib.hid hR
  clear h hR
  subst hW
  have C := Lib.hid (fun (w1 : World) (hf : Fr [] W w1) => copied_any a m c d w1 hm (hf.bin hd (by simp)).lt hl)
  clear hm hd
  go_enter Try.func47, Try.ntmps47
  go_wp2_with fail
  refine (C.out _ ((Fr.refl [] W).alloc _)).mono ?_
  rintro e w1 ⟨a1, c1, rfl, p1, p2, p3, p4, p5, p6⟩
  have hf1 : Fr [] W w1 := ((Fr.refl [] W).alloc _).trans (Fr.of_below p5 []) (by simp)
  have H1 := Lib.hid (H.out a1 c1 w1 hf1 p3 (fun b hb => by have := p6.lt b.block (by rw [hb]; rfl); simp at this; exact ⟨by omega, this.2⟩))
  clear p3 p4 p5 p6 hf1
  go_wp2_with fail
  refine H1.out.mono ?_
  intro e w9 hq
  rcases HR.out e w9 hq with rfl | ⟨t9, u9, rfl⟩
  · have hq' := Lib.hid hq
    clear hq
    go_wp2_with fail
    first | go_end0 | refine bodyPost_ret (results_none rfl _ _ _) rfl ?_
    exact hq'.out
  · exact ⟨rfl, hq⟩

set_option maxRecDepth 100000 in
set_option maxHeartbeats 1600000 in
theorem k20 (g : Nat) (W : World) (n t : Int) (dv kv : Value) (a : Option Addr) (m c : Nat) (zs : List Int) (hm : zs.length = m) (hd : IIn W W.heap.size a zs) (hl : m ≤ 2000000) (w : World) (hW : W = w) (R : Ending → World → Prop) (hR : Ends R)
    (h : ∀ a' c' w1, Fr [] w w1 → IIn w1 w1.heap.size a' zs → m ≤ c' → (∀ b, a' = some b → w.heap.size ≤ b.block ∧ b.block < w1.heap.size) → Calls Try.prog 36 #[.pointer (some ⟨g, 0, none⟩), .slice a' m c'] w1 R) :
    Calls Try.prog 47 #[.pointer (some ⟨g, 0, none⟩), .agg #[.int .i64 20, .int .i64 n, .int .i64 t, dv, .slice a m c, kv]] w R := by
  have H := Lib.hid h
  have HR := Lib.hid hR
  clear h hR
  subst hW
  obtain ⟨i0, hi0, hz0, hz1, hz2⟩ := info_parts int_infoG
  have Hm := Lib.hid hm
  have Hd := Lib.hid hd
  clear hm hd
  go_enter Try.func47, Try.ntmps47
  go_wp2_with (at_builtin; go_must (refine wpList_append_ints _ rfl (.const (.slice none 0 0)) (.tmp 63) _ rfl (W.heap.size + 1) 3 i0 _ Try.underlying37 hi0 hz0 hz1 hz2 rfl (.slice none 0 0) [] rfl (OwnI.nil _ _ _) W.heap.size a m c zs Hm.out rfl (((Fr.refl [] W).alloc _).iin Hd.out (by simp)) (show ([] : List Int).length + zs.length ≤ 17592186044416 by have := Hm.out; rw [List.length_nil]; omega) (Nat.le_of_eq (by simp)) ?_; intro A' c' w1 hown hg1 hat; simp only [List.length_nil, Nat.zero_add, List.nil_append] at hown hat ⊢; have hf1 : Fr [] W w1 := ((Fr.refl [] W).alloc _).grown hg1 (fun k hk => by cases hk); have H1 := Lib.hid (H.out A' c' w1 hf1 (hown.iin Hm.out) (by obtain ⟨_, c9, h9, hc9, _⟩ := hown.form; injection h9 with _ _ h9; rw [h9, ← Hm.out]; exact hc9) (fun b hb => by obtain ⟨a9, c9, h9, _, _, _, hb9⟩ := hown.form; injection h9 with h9; have := hb9 b (by rw [← h9, hb]); exact ⟨by omega, this.2.2.2⟩)); clear hf1 hown hg1 hat))
  refine H1.out.mono ?_
  intro e w9 hq
  rcases HR.out e w9 hq with rfl | ⟨t9, u9, rfl⟩
  · have hq' := Lib.hid hq
    clear hq
    go_wp2_with fail
    first | go_end0 | refine bodyPost_ret (results_none rfl _ _ _) rfl ?_
    exact hq'.out
  · exact ⟨rfl, hq⟩

set_option maxRecDepth 100000 in
set_option maxHeartbeats 1600000 in
theorem k21 (g : Nat) (n t : Int) (dv ov kv : Value) (w : World) (R : Ending → World → Prop) (hR : Ends R)
    (h : ∀ ty u w1, Fr [] w w1 → Calls Try.prog 87 #[.pointer (some ⟨g, 0, none⟩), .iface ty u] w1 R) :
    Calls Try.prog 48 #[.pointer (some ⟨g, 0, none⟩), .agg #[.int .i64 21, .int .i64 n, .int .i64 t, dv, ov, kv]] w R := by
  have H := Lib.hid h
  have HR := Lib.hid hR
  clear h hR
  go_enter Try.func48, Try.ntmps48
  go_wp2_with fail
  refine (new_err _ _).mono ?_
  rintro e w1 ⟨u, rfl, f1⟩
  have H1 := Lib.hid (H.out 123 u w1 (((Fr.refl [] w).alloc _).trans f1 (by simp)))
  clear f1
  go_wp2_with fail
  refine H1.out.mono ?_
  intro e w9 hq
  rcases HR.out e w9 hq with rfl | ⟨t9, u9, rfl⟩
  · have hq' := Lib.hid hq
    clear hq
    go_wp2_with fail
    first | go_end0 | refine bodyPost_ret (results_none rfl _ _ _) rfl ?_
    exact hq'.out
  · exact ⟨rfl, hq⟩

set_option maxRecDepth 100000 in
set_option maxHeartbeats 1600000 in
theorem k22 (g : Nat) (n t : Int) (dv ov kv : Value) (w : World) (R : Ending → World → Prop) (hR : Ends R)
    (h : ∀ w1, Fr [] w w1 → Calls Try.prog 88 #[.pointer (some ⟨g, 0, none⟩), .int .i64 n] w1 R) :
    Calls Try.prog 48 #[.pointer (some ⟨g, 0, none⟩), .agg #[.int .i64 22, .int .i64 n, .int .i64 t, dv, ov, kv]] w R := by
  have H := Lib.hid h
  have HR := Lib.hid hR
  clear h hR
  go_enter Try.func48, Try.ntmps48
  go_wp2_with fail
  refine (H.out _ ((Fr.refl [] w).alloc _)).mono ?_
  intro e w9 hq
  rcases HR.out e w9 hq with rfl | ⟨t9, u9, rfl⟩
  · have hq' := Lib.hid hq
    clear hq
    go_wp2_with fail
    first | go_end0 | refine bodyPost_ret (results_none rfl _ _ _) rfl ?_
    exact hq'.out
  · exact ⟨rfl, hq⟩

set_option maxRecDepth 100000 in
set_option maxHeartbeats 1600000 in
theorem k23 (g : Nat) (n t : Int) (dv ov kv : Value) (w : World) (R : Ending → World → Prop)
    (h : ∀ ty u w1, Fr [] w w1 → R (.panicked [{ v := PV ty u, recovered := false }]) w1) :
    Calls Try.prog 48 #[.pointer (some ⟨g, 0, none⟩), .agg #[.int .i64 23, .int .i64 n, .int .i64 t, dv, ov, kv]] w R := by
  have H := Lib.hid h
  clear h
  go_enter Try.func48, Try.ntmps48
  go_wp2_with fail
  refine (new_err _ _).mono ?_
  rintro e w1 ⟨u, rfl, f1⟩
  have H1 := Lib.hid (H.out 123 u w1 (((Fr.refl [] w).alloc _).trans f1 (by simp)))
  clear f1
  go_wp2_with fail
  exact ⟨rfl, H1.out⟩

set_option maxRecDepth 100000 in
set_option maxHeartbeats 1600000 in
theorem k24 (g : Nat) (n t : Int) (dv ov : Value) (a : Option Addr) (m c : Nat) (w : World) (R : Ending → World → Prop) (hR : Ends R)
    (h : ∀ w1, Fr [] w w1 → Calls Try.prog 89 #[.pointer (some ⟨g, 0, none⟩), .iface 121 (.agg #[.slice a m c, .bool false])] w1 R) :
    Calls Try.prog 48 #[.pointer (some ⟨g, 0, none⟩), .agg #[.int .i64 24, .int .i64 n, .int .i64 t, dv, ov, .slice a m c]] w R := by
  have H := Lib.hid h
  have HR := Lib.hid hR
  clear h hR
  go_enter Try.func48, Try.ntmps48
  go_wp2_with fail
  refine (H.out _ ((Fr.refl [] w).alloc _)).mono ?_
  intro e w9 hq
  rcases HR.out e w9 hq with rfl | ⟨t9, u9, rfl⟩
  · have hq' := Lib.hid hq
    clear hq
    go_wp2_with fail
    first | go_end0 | refine bodyPost_ret (results_none rfl _ _ _) rfl ?_
    exact hq'.out
  · exact ⟨rfl, hq⟩

set_option maxRecDepth 100000 in
set_option maxHeartbeats 1600000 in
theorem k25 (g : Nat) (n t : Int) (dv ov : Value) (a : Option Addr) (m c : Nat) (w : World) (R : Ending → World → Prop) (hR : Ends R)
    (h : ∀ w1, Fr [] w w1 → Calls Try.prog 89 #[.pointer (some ⟨g, 0, none⟩), .iface 121 (.agg #[.slice a m c, .bool true])] w1 R) :
    Calls Try.prog 48 #[.pointer (some ⟨g, 0, none⟩), .agg #[.int .i64 25, .int .i64 n, .int .i64 t, dv, ov, .slice a m c]] w R := by
  have H := Lib.hid h
  have HR := Lib.hid hR
  clear h hR
  go_enter Try.func48, Try.ntmps48
  go_wp2_with fail
  refine (H.out _ ((Fr.refl [] w).alloc _)).mono ?_
  intro e w9 hq
  rcases HR.out e w9 hq with rfl | ⟨t9, u9, rfl⟩
  · have hq' := Lib.hid hq
    clear hq
    go_wp2_with fail
    first | go_end0 | refine bodyPost_ret (results_none rfl _ _ _) rfl ?_
    exact hq'.out
  · exact ⟨rfl, hq⟩
end Go.Proofs.Ytdnepnnkpaoaaaa
