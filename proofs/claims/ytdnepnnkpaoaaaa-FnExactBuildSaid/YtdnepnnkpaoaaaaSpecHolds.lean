/- The contracts of the reference's holds, TakesBack, Direct. -/
import Derived.Test.YtdnepnnkpaoaaaaSpecRight
namespace Go.Proofs.Ytdnepnnkpaoaaaa
open Go.RowKit
set_option linter.unusedVariables false

theorem ItsIn.drewN {w : World} {B : Nat} {a : Option Addr} {its : List It} (h : ItsIn w B a its) (q : Nat) : ItsIn (w.drewN q) B a its := h.keep (fun _ _ => rfl)
theorem holdss_get {xs : List It} {k : Nat} {x : It} (hx : xs[k]? = some x) : x.hold ≤ holdss xs := by
  induction xs generalizing k with
  | nil => simp at hx
  | cons y ys ih =>
    unfold holdss
    cases k with
    | zero => simp at hx; subst hx; omega
    | succ k => simp only [List.getElem?_cons_succ] at hx; have := ih hx; omega

theorem quiet_shift {P : Program} {f : FuncId} {args : Array Value} {w0 : World} {q m : Nat} {v : Value}
    (h : Calls P f args (w0.drewN (q + m)) fun e w2 => e = .returned v ∧ ∃ m', w2 = (w0.drewN (q + m)).drewN m') : Calls P f args (w0.drewN (q + m)) fun e w2 => e = .returned v ∧ ∃ n, w2 = w0.drewN (q + n) :=
  h.mono fun _ _ ⟨he, m', hm⟩ => ⟨he, m + m', by rw [hm, World.drewN_drewN, Nat.add_assoc]⟩

set_option maxRecDepth 100000 in
set_option maxHeartbeats 1600000 in
theorem holds_any : ∀ (N : Nat) (a : Option Addr) (n c : Nat) (its : List It) (w : World) (B : Nat), costs its < N → its.length = n → n ≤ RB → bds its → ItsIn w B a its → holdss its ≤ 1000000000000000000 →
    Calls Try.prog 28 #[.slice a n c] w (fun e w' => e = .returned (.int .i64 (holdss its)) ∧ ∃ m, w' = w.drewN m) := by
  intro N
  induction N with
  | zero => intro a n c its w B h; omega
  | succ N ih =>
    intro a n c its w B hN hn hRB hbd hi hs
    obtain ⟨w0, hw0⟩ : ∃ w0, w0 = w := ⟨_, rfl⟩
    have Hw0 := Lib.hid hw0
    have IH := Lib.hid ih
    have HN := Lib.hid hN
    have Hn := Lib.hid hn
    have HI := Lib.hid hi
    have HS := Lib.hid hs
    have Hbd := Lib.hid hbd
    have hRB' : n ≤ 140737488355328 := hRB
    clear hn hi hN hRB ih hw0 hs hbd
    obtain ⟨S, hS⟩ : ∃ S, S = holdss its := ⟨_, rfl⟩
    rw [← hS]
    have HSS := Lib.hid hS
    clear hS
    go_enter Try.func28, Try.ntmps28
    go_wp2_with fail
    go_loopw [3, 4] (fun u i wr => ∃ k q v : Nat, k ≤ n ∧ i = .int .i64 k ∧ u = .int .i64 v ∧ Hid (v = holdss (its.take k)) ∧ wr = w0.drewN q) (fun _ i _ => n - (intOf i).toNat)
    case atStart => exact ⟨0, 0, 0, Nat.zero_le _, rfl, rfl, Lib.hid (by simp [holdss]), Hw0.out.symm⟩
    case round =>
      obtain ⟨k, q, v, hk, rfl, rfl, hval, rfl⟩ := hrel
      by_cases hlt : k < n
      · have hlt' : (k : Int) < (n : Int) := by omega
        obtain ⟨b, o, kd, nn, t, d, oi, ks, a3, c3, a4, c4, a5, c5, rfl, hb, hx, g0, g1, g2, g3, g4, g5, gn, h3, h4, h5⟩ := HI.out.at_ (k := k) (by rw [Hn.out]; exact hlt)
        rw [← Hw0.out] at g3 g4 g5
        have hx' := Lib.hid hx
        have hcx := cost_get hx
        rw [cost_mk] at hcx
        have hhx := holdss_get hx
        have hht := holdss_take hx
        have hhl := holdss_take_le its (k + 1)
        unfold It.hold at hhx hht
        rw [← hval.out] at hht
        have hSS := HS.out
        have hlen := len_costs ks
        obtain ⟨Hk, hHk⟩ : ∃ Hk, Hk = holdss ks := ⟨_, rfl⟩
        have hbx : ks.length ≤ RB ∧ bds ks := by have := bds_get Hbd.out hx; unfold It.bd at this; exact this.2.2
        have hC := Lib.hid (fun m => quiet_shift (IH.out a5 ks.length c5 ks (w0.drewN (q + m)) B (by have := HN.out; omega) rfl hbx.1 hbx.2 (by rw [Hw0.out]; exact h5.2.2.drewN _) (by omega)))
        rw [← hHk] at hC hhx hht
        have hv1 := Lib.hid hht
        obtain ⟨N3, hN3⟩ : ∃ N5, N5 = d.length := ⟨_, rfl⟩
        obtain ⟨N4, hN4⟩ : ∃ N5, N5 = oi.length := ⟨_, rfl⟩
        obtain ⟨N5, hN5⟩ : ∃ N5, N5 = ks.length := ⟨_, rfl⟩
        rw [← hN5] at hC g5
        rw [← hN3] at g3 hv1 hhx
        rw [← hN4] at g4 hv1 hhx
        have b1 : v + N3 + 9 * N4 + Hk ≤ 1000000000000000000 := by have := hv1.out; omega
        clear hbx hN5 hx h3 h4 h5 hcx g0 g1 g2 gn hN3 hN4 hHk hSS hhl hhx hht hlen
        go_wp2_with fail
        go_quiet (exact hC.out _)
        go_wp2
        go_roundw
        case rel => exact ⟨k + 1, q + nq, v + (N3 + 9 * N4 + Hk), by omega, by go_num, by go_num, Lib.hid hv1.out.symm, by first | rfl | rw [World.drewN_drewN]⟩
        case measure => first | (simp [intOf]; done) | (simp [intOf]; omega)
      · go_wp2_with fail
        go_ret
        refine ⟨?_, q, by rw [Hw0.out]⟩
        have := hval.out
        rw [List.take_of_length_le (by rw [Hn.out]; omega), ← HSS.out] at this
        rw [this]; rfl

theorem noTB_take {xs : List It} {k : Nat} {x : It} (h : noTBs (xs.take k) = true) (hx : xs[k]? = some x) (ho : x.noTB = true) : noTBs (xs.take (k + 1)) = true := by
  induction xs generalizing k with
  | nil => simp at hx
  | cons y ys ih =>
    cases k with
    | zero => simp at hx; subst hx; simp [noTBs, ho]
    | succ k =>
      simp only [List.getElem?_cons_succ] at hx
      rw [List.take_succ_cons] at h ⊢
      unfold noTBs at h ⊢
      rw [Bool.and_eq_true] at h ⊢
      exact ⟨h.1, ih h.2 hx⟩
/-- A truth is handed back; where it is false, this holds; nothing turns. -/
def No0 (P : Prop) (w : World) (e : Ending) (w' : World) : Prop := ∃ b, e = .returned (.bool b) ∧ (b = false → P) ∧ w = w'

set_option maxRecDepth 100000 in
set_option maxHeartbeats 1600000 in
theorem takesBack_any : ∀ (N : Nat) (a : Option Addr) (n c : Nat) (its : List It) (w : World) (B : Nat), costs its < N → its.length = n → n ≤ RB → bds its → ItsIn w B a its →
    Calls Try.prog 12 #[.slice a n c] w (No0 (noTBs its = true) w) := by
  intro N
  induction N with
  | zero => intro a n c its w B h; omega
  | succ N ih =>
    intro a n c its w B hN hn hRB hbd hi
    have IH := Lib.hid ih
    have HN := Lib.hid hN
    have Hn := Lib.hid hn
    have Hbd := Lib.hid hbd
    have HI := Lib.hid hi
    have hRB' : n ≤ 140737488355328 := hRB
    clear hn hi hN hbd hRB ih
    go_enter Try.func12, Try.ntmps12
    go_wp2_with fail
    go_loop [3] (fun i => ∃ k : Nat, k ≤ n ∧ i = .int .i64 k ∧ Hid (noTBs (its.take k) = true)) (fun i => n - (intOf i).toNat)
    case atStart => exact ⟨0, Nat.zero_le _, rfl, Lib.hid (by simp [noTBs])⟩
    case round =>
      obtain ⟨k, hk, rfl, hno⟩ := hrel
      by_cases hlt : k < n
      · have hlt' : (k : Int) < (n : Int) := by omega
        obtain ⟨b, o, kd, nn, t, d, oi, ks, a3, c3, a4, c4, a5, c5, rfl, hb, hx, g0, g1, g2, g3, g4, g5, gn, h3, h4, h5⟩ := HI.out.at_ (k := k) (by rw [Hn.out]; exact hlt)
        have hx' := Lib.hid hx
        have hbx : ks.length ≤ RB ∧ bds ks := by have := bds_get Hbd.out hx; unfold It.bd at this; exact this.2.2
        have hcx := cost_get hx
        rw [cost_mk] at hcx
        have hC := Lib.hid (IH.out a5 ks.length c5 ks w B (by have := HN.out; omega) rfl hbx.1 hbx.2 h5.2.2)
        obtain ⟨N5, hN5⟩ : ∃ N5, N5 = ks.length := ⟨_, rfl⟩
        rw [← hN5] at hC g5
        clear hN5 hx h3 h4 h5 hbx hcx g1 g2 g3 g4 gn
        by_cases h22 : kd = 22
        · subst h22
          go_wp2_with fail
          go_ret
          exact ⟨true, rfl, (fun h => by cases h), rfl⟩
        · have h22' : (kd == 22) = false := by simpa using h22
          have HK := Lib.hid h22'
          go_wp2_with fail
          refine hC.out.mono ?_
          rintro e w2 ⟨bb, rfl, hbb, rfl⟩
          have hbb' := Lib.hid hbb
          clear hbb
          cases bb
          · have hb1 := Lib.hid (hbb'.out rfl)
            clear hbb'
            go_wp2_with fail
            go_round
            case rel => exact ⟨k + 1, by omega, by go_num, Lib.hid (noTB_take hno.out hx'.out (by unfold It.noTB; rw [HK.out, hb1.out]; rfl))⟩
            case measure => simp [intOf]; omega
          · clear hbb'
            go_wp2_with fail
            go_ret
            exact ⟨true, rfl, (fun h => by cases h), rfl⟩
      · go_wp2_with fail
        go_ret
        refine ⟨false, rfl, fun h => ?_, rfl⟩
        have := hno.out
        rwa [List.take_of_length_le (by rw [Hn.out]; omega)] at this

/-- All steps add numbers or bytes. -/
def dirs (its : List It) : Prop := ∀ x ∈ its, x.kd ≤ 6
set_option maxRecDepth 100000 in
set_option maxHeartbeats 1600000 in
theorem direct_any (a : Option Addr) (n c : Nat) (its : List It) (w : World) (B : Nat) (hn : its.length = n) (hRB : n ≤ RB) (hi : ItsIn w B a its) :
    Calls Try.prog 17 #[.slice a n c] w (Yes0 (dirs its) w) := by
  have Hn := Lib.hid hn
  have HI := Lib.hid hi
  have hRB' : n ≤ 140737488355328 := hRB
  clear hn hi hRB
  go_enter Try.func17, Try.ntmps17
  go_wp2_with fail
  go_loop [3] (fun i => ∃ k : Nat, k ≤ n ∧ i = .int .i64 k ∧ Hid (dirs (its.take k))) (fun i => n - (intOf i).toNat)
  case atStart => exact ⟨0, Nat.zero_le _, rfl, Lib.hid (by unfold dirs; simp)⟩
  case round =>
    obtain ⟨k, hk, rfl, hno⟩ := hrel
    by_cases hlt : k < n
    · have hlt' : (k : Int) < (n : Int) := by omega
      obtain ⟨b, o, kd, nn, t, d, oi, ks, a3, c3, a4, c4, a5, c5, rfl, hb, hx, g0, g1, g2, g3, g4, g5, gn, h3, h4, h5⟩ := HI.out.at_ (k := k) (by rw [Hn.out]; exact hlt)
      have hx' := Lib.hid hx
      clear hx h3 h4 h5 g1 g2 g3 g4 g5 gn
      by_cases h6 : 6 < kd
      · have h6' : decide (6 < kd) = true := by simpa using h6
        go_wp2_with fail
        go_ret
        exact ⟨false, rfl, (fun h => by cases h), rfl⟩
      · have h6' : decide (6 < kd) = false := by simpa using h6
        go_wp2_with fail
        go_round
        case rel =>
          refine ⟨k + 1, by omega, by go_num, Lib.hid (fun x hm => ?_)⟩
          obtain ⟨hk', he⟩ := List.getElem?_eq_some_iff.1 hx'.out
          rw [List.take_succ_eq_append_getElem hk', List.mem_append] at hm
          rcases hm with hm | hm
          · exact hno.out x hm
          · simp only [List.mem_singleton] at hm
            rw [hm, he]; simp only [It.kd]; omega
        case measure => simp [intOf]; omega
    · go_wp2_with fail
      go_ret
      refine ⟨true, rfl, fun h => ?_, rfl⟩
      have := hno.out
      rwa [List.take_of_length_le (by rw [Hn.out]; omega)] at this
end Go.Proofs.Ytdnepnnkpaoaaaa
