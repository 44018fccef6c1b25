/- The contracts of the reference's steps and Right. -/
import Derived.Test.YtdnepnnkpaoaaaaSpecHolds
namespace Go.Proofs.Ytdnepnnkpaoaaaa
open Go.RowKit
set_option linter.unusedVariables false

theorem okI_of {ins : Bool} {deep : Nat} {kd n t : Int} {d o : List Int} {ks : List It} (h1 : 0 ≤ kd) (h2 : kd ≤ 25) (h3 : 0 ≤ t) (h4 : t ≤ 255) (h5 : kd = 23 → ins = true) (h6 : kd = 4 → 0 ≤ n ∧ n < 281474976710656) (h7 : smallB o = true) (h8 : deep ≠ 0)
    (h9 : okIs (ins || (decide (7 ≤ kd) && decide (kd ≤ 11))) (deep - 1) ks = true) : okI ins deep (.mk kd n t d o ks) = true := by
  unfold okI
  simp only [Bool.and_eq_true, decide_eq_true_eq, Bool.not_eq_true', Bool.and_eq_false_iff, beq_eq_false_iff_ne, ne_eq, Bool.or_eq_false_iff, decide_eq_false_iff_not, Bool.not_eq_false']
  refine ⟨⟨⟨⟨⟨⟨⟨⟨h1, h2⟩, h3⟩, h4⟩, ?_⟩, ?_⟩, h7⟩, h8⟩, h9⟩
  · by_cases h : kd = 23
    · exact .inr (h5 h)
    · exact .inl h
  · by_cases h : kd = 4
    · have := h6 h; right; omega
    · exact .inl h
theorem okIs_take_succ {ins : Bool} {deep : Nat} {xs : List It} {k : Nat} {x : It} (h : okIs ins deep (xs.take k) = true) (hx : xs[k]? = some x) (ho : okI ins deep x = true) : okIs ins deep (xs.take (k + 1)) = true := by
  induction xs generalizing k with
  | nil => simp at hx
  | cons y ys ih =>
    cases k with
    | zero => simp at hx; subst hx; simp [okIs, ho]
    | succ k =>
      simp only [List.getElem?_cons_succ] at hx
      rw [List.take_succ_cons] at h ⊢
      unfold okIs at h ⊢
      rw [Bool.and_eq_true] at h ⊢
      exact ⟨h.1, ih h.2 hx⟩
theorem Yes.no {P : Prop} {w w' : World} (h : Fr [] w w') : Yes P w (.returned (.bool false)) w' := ⟨false, rfl, (fun h => by cases h), h⟩

set_option maxRecDepth 100000 in
set_option maxHeartbeats 6400000 in
theorem specSteps_any : ∀ (N deep : Nat) (ins : Bool) (a : Option Addr) (n c : Nat) (its : List It) (w : World) (B : Nat), deep < N → deep ≤ 12 → its.length = n → n ≤ RB → bds its → ItsIn w B a its → B ≤ w.heap.size →
    Calls Try.prog 29 #[.slice a n c, .bool ins, .int .i64 deep] w (Yes (okIs ins deep its = true) w) := by
  intro N
  induction N with
  | zero => intro deep ins a n c its w B h; omega
  | succ N ih =>
    intro deep ins a n c its w B hN hd hn hRB hbd hi hB
    obtain ⟨w0, hw0⟩ : ∃ w0, w0 = w := ⟨_, rfl⟩
    have Hw0 := Lib.hid hw0
    have IH := Lib.hid ih
    have HN := Lib.hid hN
    have Hn := Lib.hid hn
    have HI := Lib.hid hi
    have Hbd := Lib.hid hbd
    have HB := Lib.hid hB
    have hRB' : n ≤ 140737488355328 := hRB
    clear hn hi hN hRB ih hw0 hbd hB
    go_enter Try.func29, Try.ntmps29
    go_wp2_with fail
    go_loopw [7] (fun i wr => ∃ k : Nat, k ≤ n ∧ i = .int .i64 k ∧ Hid (okIs ins deep (its.take k) = true) ∧ Fr [] w0 wr) (fun i _ => n - (intOf i).toNat)
    case atStart => exact ⟨0, Nat.zero_le _, rfl, Lib.hid (by simp [okIs]), by rw [Hw0.out]; exact Fr.refl _ _⟩
    case round =>
      obtain ⟨k, hk, rfl, hok, hF⟩ := hrel
      have HF := Lib.hid hF
      clear hF
      by_cases hlt : k < n
      · have hlt' : (k : Int) < (n : Int) := by omega
        obtain ⟨b, o, kd, nn, t, d, oi, ks, a3, c3, a4, c4, a5, c5, rfl, hb, hx, g0, g1, g2, g3, g4, g5, gn, h3, h4, h5⟩ := (HI.out.keep (w' := wr) (fun p hp => by have := HF.out.cells (B := B) (by rw [Hw0.out]; exact HB.out) (by simp) p hp; rwa [Hw0.out] at this)).at_ (k := k) (by rw [Hn.out]; exact hlt)
        have hx' := Lib.hid hx
        have hbx := bds_get Hbd.out hx
        unfold It.bd at hbx
        obtain ⟨hb3, hb4, hb5, hb6⟩ := hbx
        have HBr := Nat.le_trans (show B ≤ w0.heap.size by rw [Hw0.out]; exact HB.out) HF.out.size
        have hS := Lib.hid (fun (w1 : World) (hf : Fr [] wr w1) => small_any a4 oi.length c4 oi w1 B rfl (h4.2.2.keep (hf.cells HBr (by simp))) (by unfold RB at hb4; omega))
        have hK := Lib.hid (fun (i' : Bool) (w1 : World) (hf : Fr [] wr w1) (hd0 : deep ≠ 0) => IH.out (deep - 1) i' a5 ks.length c5 ks w1 B (by have := HN.out; omega) (by omega) rfl hb5 hb6 (h5.2.2.keep (hf.cells HBr (by simp))) (Nat.le_trans HBr hf.size))
        obtain ⟨N3, hN3⟩ : ∃ N5, N5 = d.length := ⟨_, rfl⟩
        obtain ⟨N4, hN4⟩ : ∃ N5, N5 = oi.length := ⟨_, rfl⟩
        obtain ⟨N5, hN5⟩ : ∃ N5, N5 = ks.length := ⟨_, rfl⟩
        rw [← hN5] at hK g5
        rw [← hN4] at hS g4
        rw [← hN3] at g3
        clear hb3 hb4 hb5 hb6 h3 h4 h5 hN3 hN4 hN5 hx gn
        have HNo := Lib.hid (fun (c : Obj) => Yes.no (P := okIs ins deep its = true) (show Fr [] w (wr.alloc c) by rw [← Hw0.out]; exact HF.out.alloc _))
        by_cases k1 : kd < 0
        · have k1' : decide (kd < 0) = true := by simpa using k1
          go_wp2_with fail
          go_ret
          exact HNo.out _
        have k1' : decide (kd < 0) = false := by simpa using k1
        by_cases k2 : 25 < kd
        · have k2' : decide (25 < kd) = true := by simpa using k2
          go_wp2_with fail
          go_ret
          exact HNo.out _
        have k2' : decide (25 < kd) = false := by simpa using k2
        by_cases k3 : t < 0
        · have k3' : decide (t < 0) = true := by simpa using k3
          go_wp2_with fail
          go_ret
          exact HNo.out _
        have k3' : decide (t < 0) = false := by simpa using k3
        by_cases k4 : 255 < t
        · have k4' : decide (255 < t) = true := by simpa using k4
          go_wp2_with fail
          go_ret
          exact HNo.out _
        have k4' : decide (255 < t) = false := by simpa using k4
        by_cases k5 : kd = 23 ∧ ins = false
        · obtain ⟨rfl, rfl⟩ := k5
          go_wp2_with fail
          go_ret
          exact HNo.out _
        by_cases k6 : kd = 4 ∧ (nn < 0 ∨ 281474976710656 ≤ nn)
        · obtain ⟨rfl, k6⟩ := k6
          rcases k6 with k6 | k6
          · have k6' : decide (nn < 0) = true := by simpa using k6
            go_wp2_with fail
            go_ret
            exact HNo.out _
          · have k6' : decide (nn < 0) = false := by simp; omega
            have k7' : decide (281474976710656 ≤ nn) = true := by simpa using k6
            go_wp2_with fail
            go_ret
            exact HNo.out _
        have HP := Lib.hid (fun h7 h8 h9 => okI_of (ins := ins) (deep := deep) (kd := kd) (n := nn) (t := t) (d := d) (o := oi) (ks := ks) (by omega) (by omega) (by omega) (by omega) (fun h => by cases ins; exact absurd ⟨h, rfl⟩ k5; rfl) (fun h => by constructor <;> omega) h7 h8 h9)
        have k8 : (kd = 23 ∧ ins = true) ∨ (kd = 4 ∧ decide (nn < 0) = false ∧ decide (281474976710656 ≤ nn) = false ∧ (ins = true ∨ ins = false)) ∨ ((kd == 23) = false ∧ (kd == 4) = false ∧ (ins = true ∨ (ins = false ∧ ((decide (7 ≤ kd) = false) ∨ (decide (7 ≤ kd) = true ∧ decide (kd ≤ 11) = false) ∨ (decide (7 ≤ kd) = true ∧ decide (kd ≤ 11) = true))))) := by
          by_cases q1 : kd = 23
          · left; refine ⟨q1, ?_⟩; cases ins; exact absurd ⟨q1, rfl⟩ k5; rfl
          · right
            by_cases q2 : kd = 4
            · left; refine ⟨q2, ?_, ?_, ?_⟩
              · simp; omega
              · simp; omega
              · cases ins; exact .inr rfl; exact .inl rfl
            · right; refine ⟨by simpa using q1, by simpa using q2, ?_⟩
              cases ins
              · right; refine ⟨rfl, ?_⟩
                by_cases q3 : 7 ≤ kd
                · right
                  by_cases q4 : kd ≤ 11
                  · right; exact ⟨by simpa using q3, by simpa using q4⟩
                  · left; exact ⟨by simpa using q3, by simpa using q4⟩
                · left; simpa using q3
              · left; rfl
        clear k5 k6
        by_cases hd0 : deep = 0
        · have hd0' : ((deep : Int) == 0) = true := by simpa using hd0
          clear hK HP hd0
          rcases k8 with ⟨rfl, rfl⟩ | ⟨rfl, n1, n2, rfl | rfl⟩ | ⟨n1, n2, rfl | ⟨rfl, n3 | ⟨n3, n4⟩ | ⟨n3, n4⟩⟩⟩
          all_goals (
            go_wp2_with fail
            refine (hS.out _ ((Fr.refl [] wr).alloc _)).mono ?_
            rintro e w2 ⟨bb, rfl, hbb, rfl⟩
            cases bb
            all_goals (
              clear hbb
              go_wp2_with fail
              go_ret
              exact HNo.out _))
        · have hd0' : ((deep : Int) == 0) = false := by simpa using hd0
          have hdd : (deep : Int) - 1 = ((deep - 1 : Nat) : Int) := by omega
          rcases k8 with ⟨rfl, rfl⟩ | ⟨rfl, n1, n2, rfl | rfl⟩ | ⟨n1, n2, rfl | ⟨rfl, n3 | ⟨n3, n4⟩ | ⟨n3, n4⟩⟩⟩
          all_goals (
            have HP' := HP.out
            clear HP
            try rw [n3] at HP'
            try rw [n4] at HP'
            simp only [Bool.true_or, Bool.false_or, Bool.true_and, Bool.false_and] at HP'
            try simp (config := {decide := true}) only [] at HP'
            have HP := Lib.hid HP'
            clear HP'
            go_wp2_with fail
            refine (hS.out _ ((Fr.refl [] wr).alloc _)).mono ?_
            rintro e w2 ⟨bb, rfl, hbb, rfl⟩
            have hbb' := Lib.hid hbb
            clear hbb
            cases bb
            · clear hbb'
              go_wp2_with fail
              go_ret
              exact HNo.out _
            · have hb1 := Lib.hid (hbb'.out rfl)
              clear hbb'
              go_wp2_with fail
              try rw [hdd]
              refine (hK.out _ _ ((Fr.refl [] wr).alloc _) hd0).mono ?_
              rintro e w3 ⟨bb, rfl, hkk, hF3⟩
              have hkk' := Lib.hid hkk
              have HF3 := Lib.hid hF3
              clear hkk hF3
              cases bb
              · clear hkk'
                go_wp2_with fail
                go_ret
                exact Yes.no (by rw [← Hw0.out]; exact (HF.out.alloc _).trans HF3.out (by simp))
              · have hk1 := Lib.hid (hkk'.out rfl)
                clear hkk'
                go_wp2_with fail
                go_roundw
                case rel => exact ⟨k + 1, by omega, by go_num, Lib.hid (okIs_take_succ hok.out hx'.out (HP.out hb1.out hd0 hk1.out)), (HF.out.alloc _).trans HF3.out (by simp)⟩
                case measure => first | (simp [intOf]; done) | (simp [intOf]; omega))
      · go_wp2_with fail
        go_ret
        refine ⟨true, rfl, fun _ => ?_, by rw [← Hw0.out]; exact HF.out⟩
        have := hok.out
        rwa [List.take_of_length_le (by rw [Hn.out]; omega)] at this
end Go.Proofs.Ytdnepnnkpaoaaaa
