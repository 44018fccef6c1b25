/- A fixed builder that has no room for a number or for bytes keeps an error. (Printed by gen_over.py.) -/
import Derived.Test.YtdnepnnkpaoaaaaBuild
namespace Go.Proofs.Ytdnepnnkpaoaaaa
open Go.RowKit
set_option linter.unusedVariables false

set_option maxRecDepth 100000 in
set_option maxHeartbeats 800000 in
theorem add_over (K : Kd) (base g r : Nat) (xs : List Int) (off pl : Int) (pa : Bool) (ic : Value) (rb : Option Nat) (a : Option Addr) (n c : Nat) (w : World)
    (hg : Bld K w base g xs off pl pa ic rb) (hr : K.fix = some r) (hl : K.lim < xs.length + n) (hn : n ≤ 4194304000) :
    Calls Try.prog 60 #[.pointer (some ⟨g, 0, none⟩), .slice a n c] w (BadP g w) := by
  obtain ⟨v, hg, hown, rfl, hfx⟩ := hg
  obtain ⟨cv, rfl, hcv⟩ := hfx r hr
  rw [hr] at hg
  have hK := K.ok
  have c0 : w.cell? ⟨g, 0, none⟩ = some .nilIface := hg.cell 0
  have c1 : w.cell? ⟨g, 1, none⟩ = some (.slice (some ⟨r, 0, none⟩) xs.length cv) := hg.cell 1
  have c2 : w.cell? ⟨g, 2, none⟩ = some (.bool true) := hg.cell 2
  have c3 : w.cell? ⟨g, 3, none⟩ = some (.pointer none) := hg.cell 3
  have hxc : xs.length ≤ cv := by
    obtain ⟨a9, c9, h9, h10, _⟩ := hown.form
    injection h9 with _ _ h11
    omega
  have Hg := Lib.hid hg
  obtain ⟨m, hm⟩ : ∃ m, m = xs.length := ⟨_, rfl⟩
  rw [← hm] at c1 hl hxc
  have hx63 : (m : Int) + n ≤ 9000000000 := by omega
  have hd : decide ((cv : Int) < (m : Int) + (n : Int)) = true := by rw [decide_eq_true_eq]; omega
  clear hg hown hm hfx hcv hK hl hr
  go_enter Try.func60, Try.ntmps60
  go_wp2_with fail
  go_quiet (fail)
  go_wp2_with fail
  refine (new_err _ _).mono ?_
  rintro e w1 ⟨u, rfl, F1⟩
  have F1' : Fr [] w w1 := ((Fr.refl [] w).drewN nq).trans F1 (by simp)
  have k1 := F1'.blk Hg.out (by simp)
  have d0 : w1.cell? ⟨g, 0, none⟩ = some .nilIface := k1.cell 0
  have df0 := k1.frozen 0
  have HK := Lib.hid k1
  have HF := Lib.hid F1'
  clear k1 F1 F1'
  go_wp2_with fail
  first | go_end0 | refine bodyPost_ret (results_none rfl _ _ _) rfl ?_
  exact ⟨rfl, ⟨_, _, _, _, _, _, _, _, HK.out.set_ 0 _⟩, (HF.out.mono (by simp)).set_ (p := ⟨g, 0, none⟩) (.inl (by simp)) _⟩

/-- Bytes are handed to 'add' as they are. -/
theorem oBytes (g : Nat) (a : Option Addr) (n c : Nat) (w : World) (R : Ending → World → Prop) (hR : ∀ e w', R e w' → e = .returned (.tuple #[]))
    (h : Calls Try.prog 60 #[.pointer (some ⟨g, 0, none⟩), .slice a n c] w R) : Calls Try.prog 42 #[.pointer (some ⟨g, 0, none⟩), .slice a n c] w R := by
  have H := Lib.hid h
  have HR := Lib.hid hR
  clear h hR
  go_enter Try.func42, Try.ntmps42
  go_wp2_with fail
  refine H.out.mono ?_
  intro e w1 hq
  have hq' := Lib.hid hq
  obtain rfl := HR.out _ _ hq
  go_wp2
  go_end0
  exact hq'.out

set_option maxRecDepth 100000 in
set_option maxHeartbeats 800000 in
theorem oU8 (g : Nat) (v : Int) (w : World) (R : Ending → World → Prop) (hR : ∀ e w', R e w' → e = .returned (.tuple #[])) (h0 : 0 ≤ v) (h1 : v ≤ 255)
    (h : ∀ W (a : Option Addr), Fr [] w W → Calls Try.prog 60 #[.pointer (some ⟨g, 0, none⟩), .slice a 1 1] W R) : Calls Try.prog 58 #[.pointer (some ⟨g, 0, none⟩), .int .u8 v] w R := by
  have H := Lib.hid h
  have HR := Lib.hid hR
  clear h hR
  go_enter Try.func58, Try.ntmps58
  go_wp2_with fail
  refine (H.out _ _ ((Fr.refl [] w).alloc _)).mono ?_
  intro e w1 hq
  have hq' := Lib.hid hq
  obtain rfl := HR.out _ _ hq
  go_wp2
  go_end0
  exact hq'.out

set_option maxRecDepth 100000 in
set_option maxHeartbeats 800000 in
theorem oU16 (g : Nat) (v : Int) (w : World) (R : Ending → World → Prop) (hR : ∀ e w', R e w' → e = .returned (.tuple #[])) (h0 : 0 ≤ v) (h1 : v ≤ 65535)
    (h : ∀ W (a : Option Addr), Fr [] w W → Calls Try.prog 60 #[.pointer (some ⟨g, 0, none⟩), .slice a 2 2] W R) : Calls Try.prog 69 #[.pointer (some ⟨g, 0, none⟩), .int .u16 v] w R := by
  have H := Lib.hid h
  have HR := Lib.hid hR
  clear h hR
  go_enter Try.func69, Try.ntmps69
  go_wp2_with fail
  refine (H.out _ _ ((Fr.refl [] w).alloc _)).mono ?_
  intro e w1 hq
  have hq' := Lib.hid hq
  obtain rfl := HR.out _ _ hq
  go_wp2
  go_end0
  exact hq'.out

set_option maxRecDepth 100000 in
set_option maxHeartbeats 800000 in
theorem oU24 (g : Nat) (v : Int) (w : World) (R : Ending → World → Prop) (hR : ∀ e w', R e w' → e = .returned (.tuple #[])) (h0 : 0 ≤ v) (h1 : v ≤ 4294967295)
    (h : ∀ W (a : Option Addr), Fr [] w W → Calls Try.prog 60 #[.pointer (some ⟨g, 0, none⟩), .slice a 3 3] W R) : Calls Try.prog 70 #[.pointer (some ⟨g, 0, none⟩), .int .u32 v] w R := by
  have H := Lib.hid h
  have HR := Lib.hid hR
  clear h hR
  go_enter Try.func70, Try.ntmps70
  go_wp2_with fail
  refine (H.out _ _ ((Fr.refl [] w).alloc _)).mono ?_
  intro e w1 hq
  have hq' := Lib.hid hq
  obtain rfl := HR.out _ _ hq
  go_wp2
  go_end0
  exact hq'.out

set_option maxRecDepth 100000 in
set_option maxHeartbeats 800000 in
theorem oU32 (g : Nat) (v : Int) (w : World) (R : Ending → World → Prop) (hR : ∀ e w', R e w' → e = .returned (.tuple #[])) (h0 : 0 ≤ v) (h1 : v ≤ 4294967295)
    (h : ∀ W (a : Option Addr), Fr [] w W → Calls Try.prog 60 #[.pointer (some ⟨g, 0, none⟩), .slice a 4 4] W R) : Calls Try.prog 71 #[.pointer (some ⟨g, 0, none⟩), .int .u32 v] w R := by
  have H := Lib.hid h
  have HR := Lib.hid hR
  clear h hR
  go_enter Try.func71, Try.ntmps71
  go_wp2_with fail
  refine (H.out _ _ ((Fr.refl [] w).alloc _)).mono ?_
  intro e w1 hq
  have hq' := Lib.hid hq
  obtain rfl := HR.out _ _ hq
  go_wp2
  go_end0
  exact hq'.out

set_option maxRecDepth 100000 in
set_option maxHeartbeats 800000 in
theorem oU48 (g : Nat) (v : Int) (w : World) (R : Ending → World → Prop) (hR : ∀ e w', R e w' → e = .returned (.tuple #[])) (h0 : 0 ≤ v) (h1 : v ≤ 281474976710655)
    (h : ∀ W (a : Option Addr), Fr [] w W → Calls Try.prog 60 #[.pointer (some ⟨g, 0, none⟩), .slice a 6 6] W R) : Calls Try.prog 72 #[.pointer (some ⟨g, 0, none⟩), .int .u64 v] w R := by
  have H := Lib.hid h
  have HR := Lib.hid hR
  clear h hR
  go_enter Try.func72, Try.ntmps72
  go_wp2_with fail
  refine (H.out _ _ ((Fr.refl [] w).alloc _)).mono ?_
  intro e w1 hq
  have hq' := Lib.hid hq
  obtain rfl := HR.out _ _ hq
  go_wp2
  go_end0
  exact hq'.out

set_option maxRecDepth 100000 in
set_option maxHeartbeats 800000 in
theorem oU64 (g : Nat) (v : Int) (w : World) (R : Ending → World → Prop) (hR : ∀ e w', R e w' → e = .returned (.tuple #[])) (h0 : 0 ≤ v) (h1 : v ≤ 18446744073709551615)
    (h : ∀ W (a : Option Addr), Fr [] w W → Calls Try.prog 60 #[.pointer (some ⟨g, 0, none⟩), .slice a 8 8] W R) : Calls Try.prog 73 #[.pointer (some ⟨g, 0, none⟩), .int .u64 v] w R := by
  have H := Lib.hid h
  have HR := Lib.hid hR
  clear h hR
  go_enter Try.func73, Try.ntmps73
  go_wp2_with fail
  refine (H.out _ _ ((Fr.refl [] w).alloc _)).mono ?_
  intro e w1 hq
  have hq' := Lib.hid hq
  obtain rfl := HR.out _ _ hq
  go_wp2
  go_end0
  exact hq'.out

/-- A number or bytes for which there is no room: the builder keeps an error. -/
theorem item_over (K : Kd) (base g r : Nat) (xs : List Int) (off pl : Int) (pa : Bool) (ic : Value) (rb : Option Nat) (ins : Bool) (dep B : Nat) (w : World) (x : It) (v : Value) (s : PB)
    (hg : Bld K w base g xs off pl pa ic rb) (hr : K.fix = some r) (hv : ItV w B x v) (hok : okI ins dep x = true) (hd : x.kd ≤ 6) (hc : x.cost ≤ Mx) (hl : K.lim + s.out.length < xs.length + (stepP s x).out.length) :
    Calls Try.prog (itemFn x.kd) #[.pointer (some ⟨g, 0, none⟩), v] w (BadP g w) := by
  obtain ⟨kd, n, t, d, o, ks⟩ := x
  obtain ⟨hn, a3, c3, a4, c4, a5, c5, rfl, ⟨l3, m3, b3, y3⟩, ⟨l4, m4, b4⟩, ⟨l5, m5, b5⟩⟩ := hv
  obtain ⟨k0', k1', t0, t1, h23, h4, hsm, hdp, hks⟩ := okI_mk hok
  rw [cost_mk] at hc
  unfold Mx at hc
  simp only [It.kd] at hd ⊢
  have hE : Ends (BadP g w) := fun e w' h => .inl h.1
  have hR : ∀ W e w', BadP g W e w' → e = .returned (.tuple #[]) := fun W e w' h => h.1
  have hf := fun (w1 : World) (h : Fr [] w w1) => hg.keep h
  have hA : ∀ (w1 : World) (a : Option Addr) (m c : Nat), Fr [] w w1 → m ≤ 4194304000 → K.lim < xs.length + m → Calls Try.prog 60 #[.pointer (some ⟨g, 0, none⟩), .slice a m c] w1 (BadP g w) :=
    fun w1 a m c h1 h2 h3 => (add_over K base g r xs off pl pa ic rb a m c w1 (hf w1 h1) hr h3 h2).mono fun e w' h => h.from_ h1
  have hnum : kd < 6 → K.lim < xs.length + numB kd := by
    intro h
    unfold stepP at hl
    rw [if_pos h, write_len, bigB_len] at hl
    omega
  have hkd : kd = 0 ∨ kd = 1 ∨ kd = 2 ∨ kd = 3 ∨ kd = 4 ∨ kd = 5 ∨ kd = 6 := by omega
  rcases hkd with rfl | rfl | rfl | rfl | rfl | rfl | rfl

  · exact k0 g n t _ _ _ w _ hE fun w1 h1 => oU8 g _ w1 _ (hR w) (by omega) (by omega) fun W a h2 => hA W a 1 1 (h1.trans h2 (by simp)) (by omega) (hnum (by omega))
  · exact k1 g n t _ _ _ w _ hE fun w1 h1 => oU16 g _ w1 _ (hR w) (by omega) (by omega) fun W a h2 => hA W a 2 2 (h1.trans h2 (by simp)) (by omega) (hnum (by omega))
  · exact k2 g n t _ _ _ w _ hE fun w1 h1 => oU24 g _ w1 _ (hR w) (by omega) (by omega) fun W a h2 => hA W a 3 3 (h1.trans h2 (by simp)) (by omega) (hnum (by omega))
  · exact k3 g n t _ _ _ w _ hE fun w1 h1 => oU32 g _ w1 _ (hR w) (by omega) (by omega) fun W a h2 => hA W a 4 4 (h1.trans h2 (by simp)) (by omega) (hnum (by omega))
  · exact k4 g n t _ _ _ w _ hE fun w1 h1 => oU48 g _ w1 _ (hR w) (by omega) (by have := h4 rfl; omega) fun W a h2 => hA W a 6 6 (h1.trans h2 (by simp)) (by omega) (hnum (by omega))
  · exact k5 g n t _ _ _ w _ hE fun w1 h1 => oU64 g _ w1 _ (hR w) (by omega) (by omega) fun W a h2 => hA W a 8 8 (h1.trans h2 (by simp)) (by omega) (hnum (by omega))
  · have h6 : K.lim < xs.length + d.length := by
      unfold stepP at hl
      rw [if_neg (by omega), if_pos rfl, write_len] at hl
      omega
    exact k6 g w n t _ _ a3 _ c3 d rfl b3.lt (by omega) w rfl _ hE fun a' c' w1 h1 _ _ => oBytes g _ _ _ w1 _ (hR w) (hA w1 a' _ _ h1 (by omega) h6)
end Go.Proofs.Ytdnepnnkpaoaaaa
