/- The contracts of the reference's small, items, holds, steps, Right, TakesBack, Direct. -/
import Derived.Test.YtdnepnnkpaoaaaaSteps
namespace Go.Proofs.Ytdnepnnkpaoaaaa
open Go.RowKit
set_option linter.unusedVariables false

/-- What one piece of memory holds at most. -/
def RB : Nat := 140737488355328
def It.ks : It → List It
  | .mk _ _ _ _ _ ks => ks
mutual
def It.cnt : It → Nat
  | .mk _ _ _ _ _ ks => 1 + cnts ks
def cnts : List It → Nat
  | [] => 0
  | x :: xs => x.cnt + cnts xs
end
mutual
def It.hold : It → Nat
  | .mk _ _ _ d o ks => d.length + 9 * o.length + holdss ks
def holdss : List It → Nat
  | [] => 0
  | x :: xs => x.hold + holdss xs
end
mutual
def It.bd : It → Prop
  | .mk _ _ _ d o ks => d.length ≤ RB ∧ o.length ≤ RB ∧ ks.length ≤ RB ∧ bds ks
def bds : List It → Prop
  | [] => True
  | x :: xs => x.bd ∧ bds xs
end
def kidc : List It → Nat
  | [] => 0
  | x :: xs => cnts x.ks + kidc xs
mutual
theorem cost_eq : ∀ x : It, x.cost = 16 * x.cnt + x.hold
  | .mk kd n t d o ks => by
    unfold It.cost It.cnt It.hold
    have := costs_eq ks
    omega
theorem costs_eq : ∀ xs : List It, costs xs = 16 * cnts xs + holdss xs
  | [] => by simp [costs, cnts, holdss]
  | x :: xs => by
    unfold costs cnts holdss
    have := costs_eq xs
    have := cost_eq x
    omega
end
mutual
theorem hold_le : ∀ x : It, x.bd → x.hold ≤ 10 * RB * x.cnt
  | .mk kd n t d o ks, h => by
    unfold It.bd at h
    unfold It.cnt It.hold
    have := holdss_le ks h.2.2.2
    have h1 := h.1
    have h2 := h.2.1
    unfold RB at *
    omega
theorem holdss_le : ∀ xs : List It, bds xs → holdss xs ≤ 10 * RB * cnts xs
  | [], h => by simp [holdss]
  | x :: xs, h => by
    unfold bds at h
    unfold cnts holdss
    have := holdss_le xs h.2
    have := hold_le x h.1
    unfold RB at *
    omega
end
theorem cnts_eq (xs : List It) : cnts xs = xs.length + kidc xs := by
  induction xs with
  | nil => simp [cnts, kidc]
  | cons x xs ih =>
    obtain ⟨kd, n, t, d, o, ks⟩ := x
    unfold cnts kidc It.cnt
    simp only [It.ks, List.length_cons]
    omega
theorem kidc_take {xs : List It} {k : Nat} {x : It} (h : xs[k]? = some x) : kidc (xs.take (k + 1)) = kidc (xs.take k) + cnts x.ks := by
  induction xs generalizing k with
  | nil => simp at h
  | cons y ys ih =>
    cases k with
    | zero => simp at h; subst h; simp [kidc]
    | succ k =>
      simp only [List.getElem?_cons_succ] at h
      rw [List.take_succ_cons, List.take_succ_cons]
      unfold kidc
      rw [ih h]; omega
theorem holdss_take {xs : List It} {k : Nat} {x : It} (h : xs[k]? = some x) : holdss (xs.take (k + 1)) = holdss (xs.take k) + x.hold := by
  induction xs generalizing k with
  | nil => simp at h
  | cons y ys ih =>
    cases k with
    | zero => simp at h; subst h; simp [holdss]
    | succ k =>
      simp only [List.getElem?_cons_succ] at h
      rw [List.take_succ_cons, List.take_succ_cons]
      unfold holdss
      rw [ih h]; omega
theorem holdss_take_le (xs : List It) (k : Nat) : holdss (xs.take k) ≤ holdss xs := by
  induction xs generalizing k with
  | nil => simp
  | cons y ys ih =>
    cases k with
    | zero => simp [holdss]
    | succ k => rw [List.take_succ_cons]; unfold holdss; have := ih k; omega
theorem bds_get {xs : List It} {k : Nat} {x : It} (h : bds xs) (hx : xs[k]? = some x) : x.bd := by
  induction xs generalizing k with
  | nil => simp at hx
  | cons y ys ih =>
    unfold bds at h
    cases k with
    | zero => simp at hx; subst hx; exact h.1
    | succ k => simp only [List.getElem?_cons_succ] at hx; exact ih h.2 hx
theorem cnts_get {xs : List It} {k : Nat} {x : It} (hx : xs[k]? = some x) : x.cnt ≤ cnts xs := by
  induction xs generalizing k with
  | nil => simp at hx
  | cons y ys ih =>
    unfold cnts
    cases k with
    | zero => simp at hx; subst hx; omega
    | succ k => simp only [List.getElem?_cons_succ] at hx; have := ih hx; omega

/-- The k-th step in memory. -/
theorem ItsIn.at_ {w : World} {B : Nat} {a : Option Addr} {its : List It} {k : Nat} (h : ItsIn w B a its) (hk : k < its.length) :
    ∃ b o kd nn t d oi ks a3 c3 a4 c4 a5 c5, a = some ⟨b, o, none⟩ ∧ b < B ∧ its[k]? = some (.mk kd nn t d oi ks) ∧
      w.cell? ⟨b, o + k * 6, none⟩ = some (.int .i64 kd) ∧ w.cell? ⟨b, o + k * 6 + 1, none⟩ = some (.int .i64 nn) ∧ w.cell? ⟨b, o + k * 6 + 2, none⟩ = some (.int .i64 t) ∧
      w.cell? ⟨b, o + k * 6 + 3, none⟩ = some (.slice a3 d.length c3) ∧ w.cell? ⟨b, o + k * 6 + 4, none⟩ = some (.slice a4 oi.length c4) ∧ w.cell? ⟨b, o + k * 6 + 5, none⟩ = some (.slice a5 ks.length c5) ∧
      (-9223372036854775808 ≤ nn ∧ nn ≤ 9223372036854775807) ∧ (d.length ≤ c3 ∧ c3 ≤ maxLen ∧ BIn w B a3 d ∧ Byt d) ∧ (oi.length ≤ c4 ∧ c4 ≤ maxLen ∧ IIn w B a4 oi) ∧ (ks.length ≤ c5 ∧ c5 ≤ maxLen ∧ ItsIn w B a5 ks) := by
  rcases h with h | ⟨b, o, rfl, hb, hat⟩
  · rw [h] at hk; simp at hk
  · have hx : its[k]? = some its[k] := List.getElem?_eq_getElem hk
    have hat' := ItsAt.get b o its hat k _ hx
    obtain ⟨x, hxx⟩ : ∃ x, x = its[k] := ⟨_, rfl⟩
    rw [← hxx] at hx hat'
    obtain ⟨kd, nn, t, d, oi, ks⟩ := x
    unfold ItAt at hat'
    obtain ⟨g0, g1, g2, gn, ⟨a3, c3, g3, l3, m3, b3, y3⟩, ⟨a4, c4, g4, l4, m4, b4⟩, ⟨a5, c5, g5, l5, m5, k5⟩⟩ := hat'
    exact ⟨b, o, kd, nn, t, d, oi, ks, a3, c3, a4, c4, a5, c5, rfl, hb, hx, g0, g1, g2, g3, g4, g5, gn, ⟨l3, m3, b3, y3⟩, ⟨l4, m4, b4⟩, ⟨l5, m5, k5⟩⟩

theorem all_takeP {p : Int → Bool} {zs : List Int} {k : Nat} (h : (zs.take k).all p = true) (hk : k < zs.length) (h0 : p (zs.getD k 0) = true) : (zs.take (k + 1)).all p = true := by
  rw [List.take_succ_eq_append_getElem hk, List.all_append, h]
  rw [List.getD_eq_getElem?_getD, List.getElem?_eq_getElem hk] at h0
  simpa using h0

/-- A truth is handed back; where it is true, this holds; nothing but new blocks turns. -/
def Yes (P : Prop) (w : World) (e : Ending) (w' : World) : Prop := ∃ b, e = .returned (.bool b) ∧ (b = true → P) ∧ Fr [] w w'

/-- The same, where nothing turns. -/
def Yes0 (P : Prop) (w : World) (e : Ending) (w' : World) : Prop := ∃ b, e = .returned (.bool b) ∧ (b = true → P) ∧ w = w'
def Num0 (P : Nat → Prop) (w : World) (e : Ending) (w' : World) : Prop := ∃ v : Nat, e = .returned (.int .i64 v) ∧ P v ∧ w = w'

set_option maxRecDepth 100000 in
set_option maxHeartbeats 1600000 in
theorem small_any (a : Option Addr) (n c : Nat) (zs : List Int) (w : World) (B : Nat) (hn : zs.length = n) (hi : IIn w B a zs) (hl : n ≤ 4194304000000000) :
    Calls Try.prog 43 #[.slice a n c] w (Yes0 (smallB zs = true) w) := by
  have Hn := Lib.hid hn
  have HI := Lib.hid hi
  clear hn hi
  go_enter Try.func43, Try.ntmps43
  go_wp2_with fail
  go_loop [3] (fun i => ∃ k : Nat, k ≤ n ∧ i = .int .i64 k ∧ Hid ((zs.take k).all (fun z => decide (z ≤ 2147483647)) = true) ∧ Hid (2 ≤ k → zs.getD 1 0 ≤ 2147483567)) (fun i => n - (intOf i).toNat)
  case atStart => exact ⟨0, Nat.zero_le _, rfl, Lib.hid rfl, Lib.hid (fun h => absurd h (by omega))⟩
  case round =>
    obtain ⟨k, hk, rfl, hall, h1⟩ := hrel
    by_cases hlt : k < n
    · obtain ⟨b, o, rfl, _, hc⟩ := HI.out (by rw [Hn.out]; omega)
      have c2 := hc k (by rw [Hn.out]; exact hlt)
      clear hc
      obtain ⟨z, hz⟩ : ∃ z, z = zs.getD k 0 := ⟨_, rfl⟩
      rw [← hz] at c2
      have Hz := Lib.hid hz
      clear hz
      by_cases hneg : 2147483647 < z
      · have hneg' : decide (2147483647 < z) = true := by simpa using hneg
        go_wp2_with fail
        go_ret
        exact ⟨false, rfl, (fun h => by cases h), rfl⟩
      · have hneg' : decide (2147483647 < z) = false := by simpa using hneg
        have hall' := Lib.hid (all_takeP hall.out (by rw [Hn.out]; exact hlt) (by rw [← Hz.out]; simp; omega))
        by_cases hk1 : k = 1
        · have hk1' := Lib.hid hk1
          subst hk1
          by_cases hbig : 2147483567 < z
          · have hbig' : decide (2147483567 < z) = true := by simpa using hbig
            go_wp2_with fail
            go_ret
            exact ⟨false, rfl, (fun h => by cases h), rfl⟩
          · have hbig' : decide (2147483567 < z) = false := by simpa using hbig
            go_wp2_with fail
            go_round
            case rel => exact ⟨2, by omega, by go_num, hall', Lib.hid (fun _ => by rw [← Hz.out]; omega)⟩
            case measure => simp [intOf]; omega
        · have hk1' : ((k : Int) == 1) = false := by simp; omega
          go_wp2_with fail
          go_round
          case rel => exact ⟨k + 1, by omega, by go_num, hall', Lib.hid (fun h2 => h1.out (by omega))⟩
          case measure => simp [intOf]; omega
    · go_wp2_with fail
      go_ret
      refine ⟨true, rfl, fun _ => ?_, rfl⟩
      have h2 := hall.out
      have hkn : k = n := by omega
      rw [List.take_of_length_le (by rw [Hn.out]; omega)] at h2
      unfold smallB
      rw [h2, Bool.true_and, decide_eq_true_eq]
      rcases Nat.lt_or_ge k 2 with hh | hh
      · rw [List.getD_eq_getElem?_getD, List.getElem?_eq_none (by rw [Hn.out]; omega)]; decide
      · exact h1.out hh

set_option maxRecDepth 100000 in
set_option maxHeartbeats 1600000 in
theorem items_any : ∀ (N : Nat) (a : Option Addr) (n c : Nat) (its : List It) (most : Nat) (w : World) (B : Nat), costs its < N → its.length = n → n ≤ RB → bds its → ItsIn w B a its → most ≤ 300 →
    Calls Try.prog 27 #[.slice a n c, .int .i64 most] w (Num0 (fun v => v ≤ most + RB ∧ (v ≤ most → v = cnts its)) w) := by
  intro N
  induction N with
  | zero => intro a n c its most w B h; omega
  | succ N ih =>
    intro a n c its most w B hN hn hRB hbd hi hm
    have IH := Lib.hid ih
    have HN := Lib.hid hN
    have Hn := Lib.hid hn
    have Hbd := Lib.hid hbd
    have HI := Lib.hid hi
    have hRB' : n ≤ 140737488355328 := hRB
    clear hn hi hN hbd hRB ih
    go_enter Try.func27, Try.ntmps27
    go_wp2_with fail
    go_loop [5, 6] (fun u i => ∃ k v : Nat, k ≤ n ∧ i = .int .i64 k ∧ u = .int .i64 v ∧ v ≤ most + 140737488355328 ∧ Hid (v ≤ most → v = n + kidc (its.take k))) (fun _ i => n - (intOf i).toNat)
    case atStart => exact ⟨0, n, Nat.zero_le _, rfl, rfl, by omega, Lib.hid (fun _ => by simp [kidc])⟩
    case round =>
      obtain ⟨k, v, hk, rfl, rfl, hv, hval⟩ := hrel
      by_cases hlt : k < n
      · have hlt' : (k : Int) < (n : Int) := by omega
        by_cases hvm : v ≤ most
        · obtain ⟨b, o, kd, nn, t, d, oi, ks, a3, c3, a4, c4, a5, c5, rfl, hb, hx, g0, g1, g2, g3, g4, g5, gn, h3, h4, h5⟩ := HI.out.at_ (k := k) (by rw [Hn.out]; exact hlt)
          have hx' := Lib.hid hx
          have hbx : ks.length ≤ RB ∧ bds ks := by have := bds_get Hbd.out hx; unfold It.bd at this; exact this.2.2
          have hcx := cost_get hx
          rw [cost_mk] at hcx
          have hC := Lib.hid (IH.out a5 ks.length c5 ks (most - v) w B (by have := HN.out; omega) rfl hbx.1 hbx.2 h5.2.2 (by omega))
          have hsub : ((most - v : Nat) : Int) = (most : Int) - (v : Int) := by omega
          rw [hsub] at hC
          clear hsub
          obtain ⟨N5, hN5⟩ : ∃ N5, N5 = ks.length := ⟨_, rfl⟩
          rw [← hN5] at hC g5
          clear hN5 hx h3 h4 h5 hbx hcx g0 g1 g2 g3 g4 gn
          have hvm' : (v : Int) ≤ (most : Int) := by omega
          go_wp2_with fail
          refine hC.out.mono ?_
          rintro e w2 ⟨u, rfl, ⟨hu1, hu2⟩, rfl⟩
          have hu2' := Lib.hid hu2
          have hu1' : u ≤ (most - v) + 140737488355328 := hu1
          clear hu2 hu1
          go_wp2_with fail
          go_round
          case rel =>
            refine ⟨k + 1, v + u, by omega, by go_num, by go_num, by omega, Lib.hid (fun hh => ?_)⟩
            rw [kidc_take hx'.out, hu2'.out (by omega)]
            have := hval.out hvm
            simp only [It.ks]
            omega
          case measure => simp [intOf]; omega
        · have hvm' : decide ((v : Int) ≤ (most : Int)) = false := by rw [decide_eq_false_iff_not]; omega
          go_wp2_with fail
          go_ret
          exact ⟨v, rfl, ⟨hv, fun h => absurd h hvm⟩, rfl⟩
      · go_wp2_with fail
        go_ret
        refine ⟨v, rfl, ⟨hv, fun h => ?_⟩, rfl⟩
        have := hval.out h
        rw [List.take_of_length_le (by rw [Hn.out]; omega)] at this
        rw [cnts_eq, Hn.out]
        exact this
end Go.Proofs.Ytdnepnnkpaoaaaa
