/- Contracts of the reference's long, First and FirstOf. -/
import Derived.Test.YtdnepnnkpaoaaaaSpec0
import Derived.Test.YtdnepnnkpaoaaaaMA
import Derived.BigQuiet
import Derived.Deep.QuietTactic
namespace Go.Proofs.Ytdnepnnkpaoaaaa
open Go.RowKit
set_option linter.unusedVariables false

def lenInt : Option Nat → Int
  | none => -1
  | some k => k

set_option maxHeartbeats 800000 in
theorem long_any (a : Option Addr) (n c m : Nat) (xs : List Int) (B : Nat) (w : World) (hn : xs.length = n) (hb : BIn w B a xs) (hx : Byt xs) :
    Calls Try.prog 51 #[.slice a n c, .int .i64 m] w fun e w' => e = .returned (.int .i64 (lenInt (longOf xs m))) ∧ w = w' := by
  by_cases h0 : m = 0
  · subst h0
    have E := Lib.hid (show lenInt (longOf xs 0) = -1 by unfold longOf; rw [if_pos (by omega)]; rfl)
    go_enter Try.func51, Try.ntmps51
    go_wp2
    go_ret
    rw [E.out]
    exact ⟨rfl, rfl⟩
  have t0 : ((m : Int) == 0) = false := by simp; omega
  by_cases h4 : 4 < m
  · have E := Lib.hid (show lenInt (longOf xs m) = -1 by unfold longOf; rw [if_pos (by omega)]; rfl)
    go_enter Try.func51, Try.ntmps51
    go_wp2
    go_ret
    rw [E.out]
    exact ⟨rfl, rfl⟩
  by_cases h5 : n < m
  · have E := Lib.hid (show lenInt (longOf xs m) = -1 by unfold longOf; rw [if_pos (by omega)]; rfl)
    go_enter Try.func51, Try.ntmps51
    go_wp2
    go_ret
    rw [E.out]
    exact ⟨rfl, rfl⟩
  have hl0 : 0 < xs.length := by omega
  obtain ⟨b, o, rfl, _, hc⟩ := hb hl0
  have e0 : w.cell? ⟨b, o, none⟩ = some (.int .u8 (xs.getD 0 0)) := hc 0 hl0
  by_cases h6 : xs.getD 0 0 = 0
  · have E := Lib.hid (show lenInt (longOf xs m) = -1 by unfold longOf; rw [if_pos (by omega)]; rfl)
    rw [h6] at e0
    have i0 : 0 < n := by omega
    clear hc hb hx hn h6
    go_enter Try.func51, Try.ntmps51
    go_wp2
    go_ret
    rw [E.out]
    exact ⟨rfl, rfl⟩
  have t6 : (xs.getD 0 0 == 0) = false := by simp; simpa using h6
  have i0 : 0 < n := by omega
  have Hn := Lib.hid hn
  have Hc := Lib.hid hc
  have Hx := Lib.hid hx
  have E := Lib.hid (show lenInt (longOf xs m) = if num (xs.take m) < 128 then -1 else num (xs.take m) by
    unfold longOf
    have s0 := num_bound (xs.take m) (hx.take m)
    by_cases hlt : num (xs.take m) < 128
    · rw [if_pos (by omega), if_pos hlt]; rfl
    · rw [if_neg (by omega), if_neg hlt]; simp only [lenInt]; omega)
  have h6' := Lib.hid h6
  generalize xs.getD 0 0 = x0 at e0 t6
  clear hn hc hx hb h6
  go_enter Try.func51, Try.ntmps51
  go_wp2
  go_loop [5, 6] (fun r i => ∃ j : Nat, j ≤ m ∧ i = .int .i64 j ∧ r = .int .i64 (num (xs.take j))) (fun _ i => m - (intOf i).toNat)
  case atStart => exact ⟨0, Nat.zero_le _, rfl, rfl⟩
  case round =>
    obtain ⟨j, hj, rfl, rfl⟩ := hrel
    by_cases hlt : j < m
    · have hl : j < xs.length := by have := Hn.out; omega
      have ej := Hc.out j hl
      obtain ⟨g1, g2⟩ := Hx.out.getD j
      have s0 := num_small (xs.take j) 3 (Hx.out.take j) (by simp; omega)
      have S := Lib.hid (num_take_succ hl)
      obtain ⟨s1, s2⟩ := s0
      have s3 : num (xs.take j) < 16777216 := by simpa using s2
      clear s2
      generalize xs.getD j 0 = x at *
      generalize num (xs.take j) = r at *
      have hjn : j < n := by omega
      go_wp2
      go_round
      case rel => exact ⟨j + 1, by omega, by go_num, by rw [S.out]⟩
      case measure => simp [intOf]; omega
    · have : j = m := by omega
      subst this
      by_cases hs : num (xs.take j) < 128
      · go_wp2
        go_ret
        refine ⟨ret_int ?_, rfl⟩
        rw [E.out, if_pos hs]
      · go_wp2
        go_ret
        refine ⟨ret_int ?_, rfl⟩
        rw [E.out, if_neg (by omega)]

theorem bin_drewN {w : World} {B : Nat} {a : Option Addr} {xs : List Int} (h : BIn w B a xs) (k : Nat) : BIn (w.drewN k) B a xs := h
theorem below_three (w : World) (o : Obj) (k : Nat) (a b c : Value) : Below w.heap.size w (((((w.alloc o).drewN k).setCell ⟨w.heap.size, 0, none⟩ a).setCell ⟨w.heap.size, 1, none⟩ b).setCell ⟨w.heap.size, 2, none⟩ c) :=
  ((((((Fr.refl [] w).alloc o).drewN k).set_ (p := ⟨w.heap.size, 0, none⟩) (.inr (Nat.le_refl _)) a).set_ (p := ⟨w.heap.size, 1, none⟩) (.inr (Nat.le_refl _)) b).set_ (p := ⟨w.heap.size, 2, none⟩) (.inr (Nat.le_refl _)) c).below (by simp) (Nat.le_refl _)

/-- What First hands back. -/
def firstVal (xs : List Int) : Value :=
  match first xs with
  | some (t, b, k) => .tuple #[.agg #[.int .i64 t, .int .i64 b, .int .i64 k], .bool true]
  | none => .tuple #[.agg #[.int .i64 0, .int .i64 0, .int .i64 0], .bool false]
theorem firstVal_none {xs : List Int} (h : first xs = none) : firstVal xs = .tuple #[.agg #[.int .i64 0, .int .i64 0, .int .i64 0], .bool false] := by simp only [firstVal, h]
theorem firstVal_some {xs : List Int} {t : Int} {b k : Nat} (h : first xs = some (t, b, k)) : firstVal xs = .tuple #[.agg #[.int .i64 t, .int .i64 b, .int .i64 k], .bool true] := by simp only [firstVal, h]

def FirstPost (xs : List Int) (w : World) (e : Ending) (w' : World) : Prop := e = .returned (firstVal xs) ∧ Below w.heap.size w w'

set_option maxRecDepth 100000 in
set_option maxHeartbeats 1600000 in
theorem first_any (a : Option Addr) (n c : Nat) (xs : List Int) (B : Nat) (w : World) (hn : xs.length = n) (hc : n ≤ c) (hb : BIn w B a xs) (hBw : B ≤ w.heap.size) (hx : Byt xs) (hl : n ≤ 4194304000) :
    Calls Try.prog 35 #[.slice a n c] w (FirstPost xs w) := by
  by_cases h2 : n < 2
  · have E := Lib.hid (firstVal_none (show first xs = none by
      match xs, hn with
      | [], _ => rfl
      | [_], _ => rfl
      | _ :: _ :: _, hn => simp at hn; omega))
    clear hb hx hl
    go_enter Try.func35, Try.ntmps35
    go_wp2
    refine bodyPost_ret (v := .tuple #[.agg #[.int .i64 0, .int .i64 0, .int .i64 0], .bool false]) (by simp [results, Try.results35, go_sem]) rfl ⟨by rw [E.out], (Below.refl _ _).alloc (Nat.le_refl _) _⟩
  obtain ⟨x0, x1, r, rfl⟩ : ∃ x0 x1 r, xs = x0 :: x1 :: r := by
    match xs, hn with
    | [], hn => simp at hn; omega
    | [_], hn => simp at hn; omega
    | x0 :: x1 :: r, _ => exact ⟨x0, x1, r, rfl⟩
  have hn' : r.length + 2 = n := by simpa using hn
  have hbb := hb
  obtain ⟨b, o, rfl, hbB, hcell⟩ := hb (by simp)
  have e0 : w.cell? ⟨b, o, none⟩ = some (.int .u8 x0) := hcell 0 (by simp)
  have e1 : w.cell? ⟨b, o + 1, none⟩ = some (.int .u8 x1) := hcell 1 (by simp)
  obtain ⟨l0, l1⟩ := hx x0 (by simp)
  obtain ⟨m0, m1⟩ := hx x1 (by simp)
  have hbs : ¬ b = w.heap.size := by omega
  have hbs2 : b < w.heap.size := by omega
  have i2 : ¬ (n : Int) < 2 := by omega
  have i1 : (1 : Int) < (n : Int) := by omega
  have i0 : (0 : Int) < (n : Int) := by omega
  have Hn := Lib.hid hn'
  have Hx := Lib.hid hx
  have Hl : (n : Int) ≤ 4194304000 := by omega
  by_cases hh : x0 % 32 = 31
  · have E := Lib.hid (firstVal_none (first_high (l := x1) (r := r) hh))
    have t1 : (x0 % 32 == 31) = true := by simp; exact hh
    clear hcell hx hn hn' hh hbb hl
    go_enter Try.func35, Try.ntmps35
    go_wp2
    refine bodyPost_ret (v := .tuple #[.agg #[.int .i64 0, .int .i64 0, .int .i64 0], .bool false]) (by simp [results, Try.results35, go_sem]) rfl ⟨by rw [E.out], (Below.refl _ _).alloc (Nat.le_refl _) _⟩
  have t1 : (x0 % 32 == 31) = false := by simp; exact hh
  by_cases hs : x1 < 128
  · obtain ⟨k, rfl⟩ := Int.eq_ofNat_of_zero_le m0
    by_cases hk : k + 2 ≤ n
    · have E := Lib.hid (firstVal_some (first_short_yes hn' hh (by omega) hk))
      have hk2 : ¬ (n : Int) < 2 + (k : Int) := by omega
      clear hcell hx hn hn' hh hbb hl
      go_enter Try.func35, Try.ntmps35
      go_wp2_with fail
      go_quiet (fail)
      go_wp2_with fail
      refine bodyPost_ret (v := .tuple #[.agg #[.int .i64 x0, .int .i64 2, .int .i64 (2 + (k : Int))], .bool true]) (by simp [results, Try.results35, go_sem]) rfl ⟨by rw [E.out, show ((k + 2 : Nat) : Int) = 2 + (k : Int) by omega]; rfl, below_three _ _ _ _ _ _⟩
    · have E := Lib.hid (firstVal_none (first_short_no (k := k) hn' hh (by omega) (by omega)))
      have hk2 : (n : Int) < 2 + (k : Int) := by omega
      clear hcell hx hn hn' hh hbb hl
      go_enter Try.func35, Try.ntmps35
      go_wp2_with fail
      go_quiet (fail)
      go_wp2_with fail
      refine bodyPost_ret (v := .tuple #[.agg #[.int .i64 0, .int .i64 0, .int .i64 0], .bool false]) (by simp [results, Try.results35, go_sem]) rfl ⟨by rw [E.out], below_three _ _ _ _ _ _⟩
  · obtain ⟨m, hm'⟩ : ∃ m : Nat, x1 = 128 + (m : Int) := ⟨(x1 - 128).toNat, by omega⟩
    subst hm'
    have sl := sl_from (some ⟨b, o, none⟩) n c 2 2 rfl (by omega)
    have hb2 : BIn w B (cutA (some ⟨b, o, none⟩) c 2) r := by simpa using hbb.cut (c := c) (k := 2) (by omega)
    have L := fun W (h : BIn W B (cutA (some ⟨b, o, none⟩) c 2) r) => Lib.hid (long_any (cutA (some ⟨b, o, none⟩) c 2) (n - 2) (c - 2) m r B W (by omega) h (hx.drop 2))
    have hb3 : BIn (w.alloc (.cells #[.int .i64 0, .int .i64 0, .int .i64 0] 69)) B (cutA (some ⟨b, o, none⟩) c 2) r := ((Fr.refl [] w).alloc _).bin hb2 (by simp)
    have Hh := Lib.hid hh
    have L' := Lib.hid L
    have Hb3 := Lib.hid hb3
    clear hcell hx hn hn' hh hbb hl hb2 L hb3
    go_enter Try.func35, Try.ntmps35
    go_wp2_with fail
    go_quiet (fail)
    go_wp2_with fail
    rw [show (128 + (m : Int) - 128) = (m : Int) from by omega]
    refine (L'.out (World.drewN _ nq) (bin_drewN Hb3.out nq)).out.mono ?_
    rintro e w' ⟨rfl, rfl⟩
    cases hk : longOf r m with
    | none =>
      have E := Lib.hid (firstVal_none (first_long_none (t := x0) (l := 128 + (m : Int)) (r := r) Hh.out (by omega) (by rw [show (128 + (m : Int) - 128).toNat = m by omega]; exact hk)))
      clear hk
      have hz : lenInt none = -1 := rfl
      rw [hz]
      go_wp2_with fail
      refine bodyPost_ret (v := .tuple #[.agg #[.int .i64 0, .int .i64 0, .int .i64 0], .bool false]) (by simp [results, Try.results35, go_sem]) rfl ⟨by rw [E.out], below_three _ _ _ _ _ _⟩
    | some k =>
      have hz : lenInt (some k) = (k : Int) := rfl
      rw [hz]
      have hf := first_long_some (t := x0) (l := 128 + (m : Int)) (r := r) Hh.out (by omega) (by rw [show (128 + (m : Int) - 128).toNat = m by omega]; exact hk)
      rw [show (128 + (m : Int) - 128).toNat = m by omega, Hn.out] at hf
      by_cases hlt : n < m + 2 + k
      · rw [if_pos hlt] at hf
        have E := Lib.hid (firstVal_none hf)
        have hk2 : (n : Int) < 2 + (m : Int) + (k : Int) := by omega
        have hk4 : (k : Int) ≤ 4294967295 := by
          obtain ⟨_, k2, k3, _, _, k5⟩ := longOf_some hk
          have := num_small (r.take m) 4 ((Hx.out.drop 2).take m) (by rw [List.length_take]; omega)
          have h5 := this.2
          rw [show (256 : Int) ^ 4 = 4294967296 by rfl] at h5
          omega
        clear hk hf hz
        go_wp2_with fail
        refine bodyPost_ret (v := .tuple #[.agg #[.int .i64 0, .int .i64 0, .int .i64 0], .bool false]) (by simp [results, Try.results35, go_sem]) rfl ⟨by rw [E.out], below_three _ _ _ _ _ _⟩
      · rw [if_neg hlt] at hf
        have E := Lib.hid (firstVal_some hf)
        have hk2 : ¬ (n : Int) < 2 + (m : Int) + (k : Int) := by omega
        clear hk hf hz
        go_wp2_with fail
        refine bodyPost_ret (v := .tuple #[.agg #[.int .i64 x0, .int .i64 (2 + (128 + (m : Int)) - 128), .int .i64 (2 + (128 + (m : Int)) - 128 + (k : Int))], .bool true]) (by simp [results, Try.results35, go_sem]) rfl ⟨by rw [E.out, show ((m + 2 : Nat) : Int) = 2 + (128 + (m : Int)) - 128 by omega, show ((m + 2 + k : Nat) : Int) = 2 + (128 + (m : Int)) - 128 + (k : Int) by omega], below_three _ _ _ _ _ _⟩
end Go.Proofs.Ytdnepnnkpaoaaaa
