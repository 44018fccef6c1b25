/- The contracts of the reference's holds, TakesBack, Direct. -/
import Derived.Test.YtdnepnnkpaoaaaaSpecRight
namespace Go.Proofs.Ytdnepnnkpaoaaaa
open Go.RowKit
set_option linter.unusedVariables false

theorem ItsIn.drewN {w : World} {B : Nat} {a : Option Addr} {its : List It} (h : ItsIn w B a its) (q : Nat) : ItsIn (w.drewN q) B a its := h.keep (fun _ _ => rfl)
theorem holdss_get {xs : List It} {k : Nat} {x : It} (hx : xs[k]? = some x) : x.hold ≤ holdss xs := by
  induction xs generalizing k with
  | nil => simp at hx
  | cons y ys ih =>
    unfold holdss
    cases k with
    | zero => simp at hx; subst hx; omega
    | succ k => simp only [List.getElem?_cons_succ] at hx; have := ih hx; omega

theorem quiet_shift {P : Program} {f : FuncId} {args : Array Value} {w0 : World} {q m : Nat} {v : Value}
    (h : Calls P f args (w0.drewN (q + m)) fun e w2 => e = .returned v ∧ ∃ m', w2 = (w0.drewN (q + m)).drewN m') : Calls P f args (w0.drewN (q + m)) fun e w2 => e = .returned v ∧ ∃ n, w2 = w0.drewN (q + n) :=
  h.mono fun _ _ ⟨he, m', hm⟩ => ⟨he, m + m', by rw [hm, World.drewN_drewN, Nat.add_assoc]⟩

set_option maxRecDepth 100000 in
set_option maxHeartbeats 1600000 in
theorem holds_any : ∀ (N : Nat) (a : Option Addr) (n c : Nat) (its : List It) (w : World) (B : Nat), costs its < N → its.length = n → n ≤ RB → bds its → ItsIn w B a its → holdss its ≤ 1000000000000000000 →
    Calls Try.prog 28 #[.slice a n c] w (fun e w' => e = .returned (.int .i64 (holdss its)) ∧ ∃ m, w' = w.drewN m) := by
  intro N
  induction N with
  | zero => intro a n c its w B h; omega
  | succ N ih =>
    intro a n c its w B hN hn hRB hbd hi hs
    obtain ⟨w0, hw0⟩ : ∃ w0, w0 = w := ⟨_, rfl⟩
    have Hw0 := Lib.hid hw0
    have IH := Lib.hid ih
    have HN := Lib.hid hN
    have Hn := Lib.hid hn
    have HI := Lib.hid hi
    have HS := Lib.hid hs
    have Hbd := Lib.hid hbd
    have hRB' : n ≤ 140737488355328 := hRB
    clear hn hi hN hRB ih hw0 hs hbd
    obtain ⟨S, hS⟩ : ∃ S, S = holdss its := ⟨_, rfl⟩
    rw [← hS]
    have HSS := Lib.hid hS
    clear hS
    go_enter Try.func28, Try.ntmps28
    go_wp2_with fail
    go_loopw [3, 4] (fun u i wr => ∃ k q v : Nat, k ≤ n ∧ i = .int .i64 k ∧ u = .int .i64 v ∧ Hid (v = holdss (its.take k)) ∧ wr = w0.drewN q) (fun _ i _ => n - (intOf i).toNat)
    case atStart => exact ⟨0, 0, 0, Nat.zero_le _, rfl, rfl, Lib.hid (by simp [holdss]), Hw0.out.symm⟩
    case round =>
      obtain ⟨k, q, v, hk, rfl, rfl, hval, rfl⟩ := hrel
      by_cases hlt : k < n
      · have hlt' : (k : Int) < (n : Int) := by omega
        obtain ⟨b, o, kd, nn, t, d, oi, ks, a3, c3, a4, c4, a5, c5, rfl, hb, hx, g0, g1, g2, g3, g4, g5, gn, h3, h4, h5⟩ := HI.out.at_ (k := k) (by rw [Hn.out]; exact hlt)
        rw [← Hw0.out] at g3 g4 g5
        have hx' := Lib.hid hx
        have hcx := cost_get hx
        rw [cost_mk] at hcx
        have hhx := holdss_get hx
        have hht := holdss_take hx
        have hhl := holdss_take_le its (k + 1)
        unfold It.hold at hhx hht
        rw [← hval.out] at hht
        have hSS := HS.out
        have hlen := len_costs ks
        obtain ⟨Hk, hHk⟩ : ∃ Hk, Hk = holdss ks := ⟨_, rfl⟩
        have hbx : ks.length ≤ RB ∧ bds ks := by have := bds_get Hbd.out hx; unfold It.bd at this; exact this.2.2
        have hC := Lib.hid (fun m => quiet_shift (IH.out a5 ks.length c5 ks (w0.drewN (q + m)) B (by have := HN.out; omega) rfl hbx.1 hbx.2 (by rw [Hw0.out]; exact h5.2.2.drewN _) (by omega)))
        rw [← hHk] at hC hhx hht
        have hv1 := Lib.hid hht
        obtain ⟨N3, hN3⟩ : ∃ N5, N5 = d.length := ⟨_, rfl⟩
        obtain ⟨N4, hN4⟩ : ∃ N5, N5 = oi.length := ⟨_, rfl⟩
        obtain ⟨N5, hN5⟩ : ∃ N5, N5 = ks.length := ⟨_, rfl⟩
        rw [← hN5] at hC g5
        rw [← hN3] at g3 hv1 hhx
        rw [← hN4] at g4 hv1 hhx
        have b1 : v + N3 + 9 * N4 + Hk ≤ 1000000000000000000 := by have := hv1.out; omega
        clear hbx hN5 hx h3 h4 h5 hcx g0 g1 g2 gn hN3 hN4 hHk hSS hhl hhx hht hlen
        go_wp2_with fail
        go_quiet (exact hC.out _)
        go_wp2
        go_roundw
        case rel => exact ⟨k + 1, q + nq, v + (N3 + 9 * N4 + Hk), by omega, by go_num, by go_num, Lib.hid hv1.out.symm, by first | rfl | rw [World.drewN_drewN]⟩
        case measure => first | (simp [intOf]; done) | (simp [intOf]; omega)
      · go_wp2_with fail
        go_ret
        refine ⟨?_, q, by rw [Hw0.out]⟩
        have := hval.out
        rw [List.take_of_length_le (by rw [Hn.out]; omega), ← HSS.out] at this
        rw [this]; rfl

theorem noTB_take {xs : List It} {k : Nat} {x : It} (h : noTBs (xs.take k) = true) (hx : xs[k]? = some x) (ho : x.noTB = true) : noTBs (xs.take (k + 1)) = true := by
  induction xs generalizing k with
  | nil => simp at hx
  | cons y ys ih =>
    cases k with
    | zero => simp at hx; subst hx; simp [noTBs, ho]
    | succ k =>
      simp only [List.getElem?_cons_succ] at hx
      rw [List.take_succ_cons] at h ⊢
      unfold noTBs at h ⊢
      rw [Bool.and_eq_true] at h ⊢
      exact ⟨h.1, ih h.2 hx⟩
/-- A truth is handed back; where it is false, this holds; nothing turns. -/
def No0 (P : Prop) (w : World) (e : Ending) (w' : World) : Prop := ∃ b, e = .returned (.bool b) ∧ (b = false → P) ∧ w = w'

set_option maxRecDepth 100000 in
set_option maxHeartbeats 1600000 in
theorem takesBack_any : ∀ (N : Nat) (a : Option Addr) (n c : Nat) (its : List It) (w : World) (B : Nat), costs its < N → its.length = n → n ≤ RB → bds its → ItsIn w B a its →
    Calls Try.prog 12 #[.slice a n c] w (No0 (noTBs its = true) w) := by
  intro N
  induction N with
  | zero => intro a n c its w B h; omega
  | succ N ih =>
    intro a n c its w B hN hn hRB hbd hi
    have IH := Lib.hid ih
    have HN := Lib.hid hN
    have Hn := Lib.hid hn
    have Hbd := Lib.hid hbd
    have HI := Lib.hid hi
    have hRB' : n ≤ 140737488355328 := hRB
    clear hn hi hN hbd hRB ih
    go_enter Try.func12, Try.ntmps12
    go_wp2_with fail
    go_loop [3] (fun i => ∃ k : Nat, k ≤ n ∧ i = .int .i64 k ∧ Hid (noTBs (its.take k) = true)) (fun i => n - (intOf i).toNat)
    case atStart => exact ⟨0, Nat.zero_le _, rfl, Lib.hid (by simp [noTBs])⟩
    case round =>
      obtain ⟨k, hk, rfl, hno⟩ := hrel
      by_cases hlt : k < n
      · have hlt' : (k : Int) < (n : Int) := by omega
        obtain ⟨b, o, kd, nn, t, d, oi, ks, a3, c3, a4, c4, a5, c5, rfl, hb, hx, g0, g1, g2, g3, g4, g5, gn, h3, h4, h5⟩ := HI.out.at_ (k := k) (by rw [Hn.out]; exact hlt)
        have hx' := Lib.hid hx
        have hbx : ks.length ≤ RB ∧ bds ks := by have := bds_get Hbd.out hx; unfold It.bd at this; exact this.2.2
        have hcx := cost_get hx
        rw [cost_mk] at hcx
        have hC := Lib.hid (IH.out a5 ks.length c5 ks w B (by have := HN.out; omega) rfl hbx.1 hbx.2 h5.2.2)
        obtain ⟨N5, hN5⟩ : ∃ N5, N5 = ks.length := ⟨_, rfl⟩
        rw [← hN5] at hC g5
        clear hN5 hx h3 h4 h5 hbx hcx g1 g2 g3 g4 gn
        by_cases h22 : kd = 22
        · subst h22
          go_wp2_with fail
          go_ret
          exact ⟨true, rfl, (fun h => by cases h), rfl⟩
        · have h22' : (kd == 22) = false := by simpa using h22
          have HK := Lib.hid h22'
          go_wp2_with fail
          refine hC.out.mono ?_
          rintro e w2 ⟨bb, rfl, hbb, rfl⟩
          have hbb' := Lib.hid hbb
          clear hbb
          cases bb
          · have hb1 := Lib.hid (hbb'.out rfl)
            clear hbb'
            go_wp2_with fail
            go_round
            case rel => exact ⟨k + 1, by omega, by go_num, Lib.hid (noTB_take hno.out hx'.out (by unfold It.noTB; rw [HK.out, hb1.out]; rfl))⟩
            case measure => simp [intOf]; omega
          · clear hbb'
            go_wp2_with fail
            go_ret
            exact ⟨true, rfl, (fun h => by cases h), rfl⟩
      · go_wp2_with fail
        go_ret
        refine ⟨false, rfl, fun h => ?_, rfl⟩
        have := hno.out
        rwa [List.take_of_length_le (by rw [Hn.out]; omega)] at this

/-- All steps add numbers or bytes. -/
def dirs (its : List It) : Prop := ∀ x ∈ its, x.kd ≤ 6
set_option maxRecDepth 100000 in
set_option maxHeartbeats 1600000 in
theorem direct_any (a : Option Addr) (n c : Nat) (its : List It) (w : World) (B : Nat) (hn : its.length = n) (hRB : n ≤ RB) (hi : ItsIn w B a its) :
    Calls Try.prog 17 #[.slice a n c] w (Yes0 (dirs its) w) := by
  have Hn := Lib.hid hn
  have HI := Lib.hid hi
  have hRB' : n ≤ 140737488355328 := hRB
  clear hn hi hRB
  go_enter Try.func17, Try.ntmps17
  go_wp2_with fail
  go_loop [3] (fun i => ∃ k : Nat, k ≤ n ∧ i = .int .i64 k ∧ Hid (dirs (its.take k))) (fun i => n - (intOf i).toNat)
  case atStart => exact ⟨0, Nat.zero_le _, rfl, Lib.hid (by unfold dirs; simp)⟩
  case round =>
    obtain ⟨k, hk, rfl, hno⟩ := hrel
    by_cases hlt : k < n
    · have hlt' : (k : Int) < (n : Int) := by omega
      obtain ⟨b, o, kd, nn, t, d, oi, ks, a3, c3, a4, c4, a5, c5, rfl, hb, hx, g0, g1, g2, g3, g4, g5, gn, h3, h4, h5⟩ := HI.out.at_ (k := k) (by rw [Hn.out]; exact hlt)
      have hx' := Lib.hid hx
      clear hx h3 h4 h5 g1 g2 g3 g4 g5 gn
      by_cases h6 : 6 < kd
      · have h6' : decide (6 < kd) = true := by simpa using h6
        go_wp2_with fail
        go_ret
        exact ⟨false, rfl, (fun h => by cases h), rfl⟩
      · have h6' : decide (6 < kd) = false := by simpa using h6
        go_wp2_with fail
        go_round
        case rel =>
          refine ⟨k + 1, by omega, by go_num, Lib.hid (fun x hm => ?_)⟩
          obtain ⟨hk', he⟩ := List.getElem?_eq_some_iff.1 hx'.out
          rw [List.take_succ_eq_append_getElem hk', List.mem_append] at hm
          rcases hm with hm | hm
          · exact hno.out x hm
          · simp only [List.mem_singleton] at hm
            rw [hm, he]; simp only [It.kd]; omega
        case measure => simp [intOf]; omega
    · go_wp2_with fail
      go_ret
      refine ⟨true, rfl, fun h => ?_, rfl⟩
      have := hno.out
      rwa [List.take_of_length_le (by rw [Hn.out]; omega)] at this
end Go.Proofs.Ytdnepnnkpaoaaaa

namespace Go.Proofs.Ytdnepnnkpaoaaaa
open Go.RowKit
set_option linter.unusedVariables false

theorem okI_of {ins : Bool} {deep : Nat} {kd n t : Int} {d o : List Int} {ks : List It} (h1 : 0 ≤ kd) (h2 : kd ≤ 25) (h3 : 0 ≤ t) (h4 : t ≤ 255) (h5 : kd = 23 → ins = true) (h6 : kd = 4 → 0 ≤ n ∧ n < 281474976710656) (h7 : smallB o = true) (h8 : deep ≠ 0)
    (h9 : okIs (ins || (decide (7 ≤ kd) && decide (kd ≤ 11))) (deep - 1) ks = true) : okI ins deep (.mk kd n t d o ks) = true := by
  unfold okI
  simp only [Bool.and_eq_true, decide_eq_true_eq, Bool.not_eq_true', Bool.and_eq_false_iff, beq_eq_false_iff_ne, ne_eq, Bool.or_eq_false_iff, decide_eq_false_iff_not, Bool.not_eq_false']
  refine ⟨⟨⟨⟨⟨⟨⟨⟨h1, h2⟩, h3⟩, h4⟩, ?_⟩, ?_⟩, h7⟩, h8⟩, h9⟩
  · by_cases h : kd = 23
    · exact .inr (h5 h)
    · exact .inl h
  · by_cases h : kd = 4
    · have := h6 h; right; omega
    · exact .inl h
theorem okIs_take_succ {ins : Bool} {deep : Nat} {xs : List It} {k : Nat} {x : It} (h : okIs ins deep (xs.take k) = true) (hx : xs[k]? = some x) (ho : okI ins deep x = true) : okIs ins deep (xs.take (k + 1)) = true := by
  induction xs generalizing k with
  | nil => simp at hx
  | cons y ys ih =>
    cases k with
    | zero => simp at hx; subst hx; simp [okIs, ho]
    | succ k =>
      simp only [List.getElem?_cons_succ] at hx
      rw [List.take_succ_cons] at h ⊢
      unfold okIs at h ⊢
      rw [Bool.and_eq_true] at h ⊢
      exact ⟨h.1, ih h.2 hx⟩
theorem Yes.no {P : Prop} {w w' : World} (h : Fr [] w w') : Yes P w (.returned (.bool false)) w' := ⟨false, rfl, (fun h => by cases h), h⟩

set_option maxRecDepth 100000 in
set_option maxHeartbeats 6400000 in
theorem specSteps_any : ∀ (N deep : Nat) (ins : Bool) (a : Option Addr) (n c : Nat) (its : List It) (w : World) (B : Nat), deep < N → deep ≤ 12 → its.length = n → n ≤ RB → bds its → ItsIn w B a its → B ≤ w.heap.size →
    Calls Try.prog 29 #[.slice a n c, .bool ins, .int .i64 deep] w (Yes (okIs ins deep its = true) w) := by
  intro N
  induction N with
  | zero => intro deep ins a n c its w B h; omega
  | succ N ih =>
    intro deep ins a n c its w B hN hd hn hRB hbd hi hB
    obtain ⟨w0, hw0⟩ : ∃ w0, w0 = w := ⟨_, rfl⟩
    have Hw0 := Lib.hid hw0
    have IH := Lib.hid ih
    have HN := Lib.hid hN
    have Hn := Lib.hid hn
    have HI := Lib.hid hi
    have Hbd := Lib.hid hbd
    have HB := Lib.hid hB
    have hRB' : n ≤ 140737488355328 := hRB
    clear hn hi hN hRB ih hw0 hbd hB
    go_enter Try.func29, Try.ntmps29
    go_wp2_with fail
    go_loopw [7] (fun i wr => ∃ k : Nat, k ≤ n ∧ i = .int .i64 k ∧ Hid (okIs ins deep (its.take k) = true) ∧ Fr [] w0 wr) (fun i _ => n - (intOf i).toNat)
    case atStart => exact ⟨0, Nat.zero_le _, rfl, Lib.hid (by simp [okIs]), by rw [Hw0.out]; exact Fr.refl _ _⟩
    case round =>
      obtain ⟨k, hk, rfl, hok, hF⟩ := hrel
      have HF := Lib.hid hF
      clear hF
      by_cases hlt : k < n
      · have hlt' : (k : Int) < (n : Int) := by omega
        obtain ⟨b, o, kd, nn, t, d, oi, ks, a3, c3, a4, c4, a5, c5, rfl, hb, hx, g0, g1, g2, g3, g4, g5, gn, h3, h4, h5⟩ := (HI.out.keep (w' := wr) (fun p hp => by have := HF.out.cells (B := B) (by rw [Hw0.out]; exact HB.out) (by simp) p hp; rwa [Hw0.out] at this)).at_ (k := k) (by rw [Hn.out]; exact hlt)
        have hx' := Lib.hid hx
        have hbx := bds_get Hbd.out hx
        unfold It.bd at hbx
        obtain ⟨hb3, hb4, hb5, hb6⟩ := hbx
        have HBr := Nat.le_trans (show B ≤ w0.heap.size by rw [Hw0.out]; exact HB.out) HF.out.size
        have hS := Lib.hid (fun (w1 : World) (hf : Fr [] wr w1) => small_any a4 oi.length c4 oi w1 B rfl (h4.2.2.keep (hf.cells HBr (by simp))) (by unfold RB at hb4; omega))
        have hK := Lib.hid (fun (i' : Bool) (w1 : World) (hf : Fr [] wr w1) (hd0 : deep ≠ 0) => IH.out (deep - 1) i' a5 ks.length c5 ks w1 B (by have := HN.out; omega) (by omega) rfl hb5 hb6 (h5.2.2.keep (hf.cells HBr (by simp))) (Nat.le_trans HBr hf.size))
        obtain ⟨N3, hN3⟩ : ∃ N5, N5 = d.length := ⟨_, rfl⟩
        obtain ⟨N4, hN4⟩ : ∃ N5, N5 = oi.length := ⟨_, rfl⟩
        obtain ⟨N5, hN5⟩ : ∃ N5, N5 = ks.length := ⟨_, rfl⟩
        rw [← hN5] at hK g5
        rw [← hN4] at hS g4
        rw [← hN3] at g3
        clear hb3 hb4 hb5 hb6 h3 h4 h5 hN3 hN4 hN5 hx gn
        have HNo := Lib.hid (fun (c : Obj) => Yes.no (P := okIs ins deep its = true) (show Fr [] w (wr.alloc c) by rw [← Hw0.out]; exact HF.out.alloc _))
        by_cases k1 : kd < 0
        · have k1' : decide (kd < 0) = true := by simpa using k1
          go_wp2_with fail
          go_ret
          exact HNo.out _
        have k1' : decide (kd < 0) = false := by simpa using k1
        by_cases k2 : 25 < kd
        · have k2' : decide (25 < kd) = true := by simpa using k2
          go_wp2_with fail
          go_ret
          exact HNo.out _
        have k2' : decide (25 < kd) = false := by simpa using k2
        by_cases k3 : t < 0
        · have k3' : decide (t < 0) = true := by simpa using k3
          go_wp2_with fail
          go_ret
          exact HNo.out _
        have k3' : decide (t < 0) = false := by simpa using k3
        by_cases k4 : 255 < t
        · have k4' : decide (255 < t) = true := by simpa using k4
          go_wp2_with fail
          go_ret
          exact HNo.out _
        have k4' : decide (255 < t) = false := by simpa using k4
        by_cases k5 : kd = 23 ∧ ins = false
        · obtain ⟨rfl, rfl⟩ := k5
          go_wp2_with fail
          go_ret
          exact HNo.out _
        by_cases k6 : kd = 4 ∧ (nn < 0 ∨ 281474976710656 ≤ nn)
        · obtain ⟨rfl, k6⟩ := k6
          rcases k6 with k6 | k6
          · have k6' : decide (nn < 0) = true := by simpa using k6
            go_wp2_with fail
            go_ret
            exact HNo.out _
          · have k6' : decide (nn < 0) = false := by simp; omega
            have k7' : decide (281474976710656 ≤ nn) = true := by simpa using k6
            go_wp2_with fail
            go_ret
            exact HNo.out _
        have HP := Lib.hid (fun h7 h8 h9 => okI_of (ins := ins) (deep := deep) (kd := kd) (n := nn) (t := t) (d := d) (o := oi) (ks := ks) (by omega) (by omega) (by omega) (by omega) (fun h => by cases ins; exact absurd ⟨h, rfl⟩ k5; rfl) (fun h => by constructor <;> omega) h7 h8 h9)
        have k8 : (kd = 23 ∧ ins = true) ∨ (kd = 4 ∧ decide (nn < 0) = false ∧ decide (281474976710656 ≤ nn) = false ∧ (ins = true ∨ ins = false)) ∨ ((kd == 23) = false ∧ (kd == 4) = false ∧ (ins = true ∨ (ins = false ∧ ((decide (7 ≤ kd) = false) ∨ (decide (7 ≤ kd) = true ∧ decide (kd ≤ 11) = false) ∨ (decide (7 ≤ kd) = true ∧ decide (kd ≤ 11) = true))))) := by
          by_cases q1 : kd = 23
          · left; refine ⟨q1, ?_⟩; cases ins; exact absurd ⟨q1, rfl⟩ k5; rfl
          · right
            by_cases q2 : kd = 4
            · left; refine ⟨q2, ?_, ?_, ?_⟩
              · simp; omega
              · simp; omega
              · cases ins; exact .inr rfl; exact .inl rfl
            · right; refine ⟨by simpa using q1, by simpa using q2, ?_⟩
              cases ins
              · right; refine ⟨rfl, ?_⟩
                by_cases q3 : 7 ≤ kd
                · right
                  by_cases q4 : kd ≤ 11
                  · right; exact ⟨by simpa using q3, by simpa using q4⟩
                  · left; exact ⟨by simpa using q3, by simpa using q4⟩
                · left; simpa using q3
              · left; rfl
        clear k5 k6
        by_cases hd0 : deep = 0
        · have hd0' : ((deep : Int) == 0) = true := by simpa using hd0
          clear hK HP hd0
          rcases k8 with ⟨rfl, rfl⟩ | ⟨rfl, n1, n2, rfl | rfl⟩ | ⟨n1, n2, rfl | ⟨rfl, n3 | ⟨n3, n4⟩ | ⟨n3, n4⟩⟩⟩
          all_goals (
            go_wp2_with fail
            refine (hS.out _ ((Fr.refl [] wr).alloc _)).mono ?_
            rintro e w2 ⟨bb, rfl, hbb, rfl⟩
            cases bb
            all_goals (
              clear hbb
              go_wp2_with fail
              go_ret
              exact HNo.out _))
        · have hd0' : ((deep : Int) == 0) = false := by simpa using hd0
          have hdd : (deep : Int) - 1 = ((deep - 1 : Nat) : Int) := by omega
          rcases k8 with ⟨rfl, rfl⟩ | ⟨rfl, n1, n2, rfl | rfl⟩ | ⟨n1, n2, rfl | ⟨rfl, n3 | ⟨n3, n4⟩ | ⟨n3, n4⟩⟩⟩
          all_goals (
            have HP' := HP.out
            clear HP
            try rw [n3] at HP'
            try rw [n4] at HP'
            simp only [Bool.true_or, Bool.false_or, Bool.true_and, Bool.false_and] at HP'
            try simp (config := {decide := true}) only [] at HP'
            have HP := Lib.hid HP'
            clear HP'
            go_wp2_with fail
            refine (hS.out _ ((Fr.refl [] wr).alloc _)).mono ?_
            rintro e w2 ⟨bb, rfl, hbb, rfl⟩
            have hbb' := Lib.hid hbb
            clear hbb
            cases bb
            · clear hbb'
              go_wp2_with fail
              go_ret
              exact HNo.out _
            · have hb1 := Lib.hid (hbb'.out rfl)
              clear hbb'
              go_wp2_with fail
              try rw [hdd]
              refine (hK.out _ _ ((Fr.refl [] wr).alloc _) hd0).mono ?_
              rintro e w3 ⟨bb, rfl, hkk, hF3⟩
              have hkk' := Lib.hid hkk
              have HF3 := Lib.hid hF3
              clear hkk hF3
              cases bb
              · clear hkk'
                go_wp2_with fail
                go_ret
                exact Yes.no (by rw [← Hw0.out]; exact (HF.out.alloc _).trans HF3.out (by simp))
              · have hk1 := Lib.hid (hkk'.out rfl)
                clear hkk'
                go_wp2_with fail
                go_roundw
                case rel => exact ⟨k + 1, by omega, by go_num, Lib.hid (okIs_take_succ hok.out hx'.out (HP.out hb1.out hd0 hk1.out)), (HF.out.alloc _).trans HF3.out (by simp)⟩
                case measure => first | (simp [intOf]; done) | (simp [intOf]; omega))
      · go_wp2_with fail
        go_ret
        refine ⟨true, rfl, fun _ => ?_, by rw [← Hw0.out]; exact HF.out⟩
        have := hok.out
        rwa [List.take_of_length_le (by rw [Hn.out]; omega)] at this
end Go.Proofs.Ytdnepnnkpaoaaaa

namespace Go.Proofs.Ytdnepnnkpaoaaaa
open Go.RowKit
set_option linter.unusedVariables false

/-- What is asked of steps that are right. -/
def RightP (its : List It) : Prop := okIs false 12 its = true ∧ costs its ≤ 204800

set_option maxRecDepth 100000 in
set_option maxHeartbeats 1600000 in
theorem right_any (a : Option Addr) (n c : Nat) (its : List It) (w : World) (hn : its.length = n) (hRB : n ≤ RB) (hbd : bds its) (hi : ItsIn w w.heap.size a its) :
    Calls Try.prog 11 #[.slice a n c] w (Yes (RightP its) w) := by
  have H1 := Lib.hid (items_any (costs its + 1) a n c its 300 w w.heap.size (by omega) hn hRB hbd hi (by omega))
  have H2 := Lib.hid (fun h => holds_any (costs its + 1) a n c its w w.heap.size (by omega) hn hRB hbd hi h)
  have H3 := Lib.hid (fun q => specSteps_any 13 12 false a n c its (w.drewN q) w.heap.size (by omega) (by omega) hn hRB hbd (hi.drewN q) (Nat.le_refl _))
  have HH := Lib.hid (holdss_le its hbd)
  have HC := Lib.hid (costs_eq its)
  clear hn hi hbd hRB
  go_enter Try.func11, Try.ntmps11
  go_wp2_with fail
  refine H1.out.mono ?_
  rintro e w1 ⟨v, rfl, ⟨v1, v2⟩, rfl⟩
  have V1 := Lib.hid v1
  have V2 := Lib.hid v2
  clear v1 v2
  by_cases hv : v ≤ 300
  · have hv' : decide ((v : Int) ≤ 300) = true := by simp; omega
    have hle : holdss its ≤ 1000000000000000000 := by have := HH.out; have := V2.out hv; unfold RB at *; omega
    have H2' := Lib.hid (H2.out hle)
    obtain ⟨S, hS⟩ : ∃ S, S = holdss its := ⟨_, rfl⟩
    have HS := Lib.hid hS
    rw [← hS] at H2'
    clear hS hle
    go_wp2_with fail
    refine H2'.out.mono ?_
    rintro e w2 ⟨rfl, q, rfl⟩
    by_cases hs : S ≤ 200000
    · have hs' : decide ((S : Int) ≤ 200000) = true := by simp; omega
      go_wp2_with fail
      refine (H3.out q).mono ?_
      rintro e w3 ⟨bb, rfl, hbb, hF⟩
      have Hbb := Lib.hid hbb
      have HF := Lib.hid hF
      clear hbb hF
      go_wp2_with fail
      go_ret
      exact ⟨bb, rfl, fun h => ⟨Hbb.out h, by rw [HC.out, ← V2.out hv, ← HS.out]; omega⟩, ((Fr.refl [] w).drewN q).trans HF.out (by simp)⟩
    · have hs' : decide ((S : Int) ≤ 200000) = false := by simp; omega
      go_wp2_with fail
      go_ret
      exact Yes.no ((Fr.refl [] w).drewN q)
  · have hv' : decide ((v : Int) ≤ 300) = false := by simp; omega
    go_wp2_with fail
    go_ret
    exact Yes.no (Fr.refl [] w)
end Go.Proofs.Ytdnepnnkpaoaaaa
