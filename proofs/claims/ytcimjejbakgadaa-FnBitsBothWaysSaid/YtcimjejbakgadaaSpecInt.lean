/- The contracts of the reference's integer, IntOf, and of isInt. -/
import Derived.Test.YtcimjejbakgadaaInt
import Derived.Test.YtcimjejbakgadaaSpecOf
namespace Go.Proofs.Ytcimjejbakgadaa
open Go.RowKit
set_option linter.unusedVariables false

set_option maxRecDepth 100000 in
set_option maxHeartbeats 800000 in
theorem integer_any (a : Option Addr) (n c : Nat) (xs : List Int) (B : Nat) (w : World) (hn : xs.length = n) (hb : BIn w B a xs) (hx : Byt xs) :
    Calls Try.prog 95 #[.slice a n c] w fun e w' => e = .returned (.bool (isInteger xs)) ∧ w = w' := by
  match xs, hn, hb, hx with
  | [], hn, hb, hx =>
    simp at hn; subst hn
    go_enter Try.func95, Try.ntmps95
    go_wp2
    go_ret
    exact ⟨rfl, rfl⟩
  | [x], hn, hb, hx =>
    simp at hn; subst hn
    go_enter Try.func95, Try.ntmps95
    go_wp2
    go_ret
    exact ⟨rfl, rfl⟩
  | x :: y :: r, hn, hb, hx =>
    obtain ⟨b, o, rfl, _, hc⟩ := hb (by simp)
    have e0 : w.cell? ⟨b, o, none⟩ = some (.int .u8 x) := hc 0 (by simp)
    have e1 : w.cell? ⟨b, o + 1, none⟩ = some (.int .u8 y) := hc 1 (by simp)
    have i1 : ¬ (n : Int) < 2 := by simp at hn; omega
    have i0 : (1 : Int) < (n : Int) := by omega
    have i4 : (0 : Int) < (n : Int) := by omega
    have E := Lib.hid (show isInteger (x :: y :: r) = (!(x == 0 && decide (y < 128)) && !(x == 255 && decide (128 ≤ y))) from rfl)
    clear hn hb hx hc
    go_enter Try.func95, Try.ntmps95
    go_wp2
    all_goals go_ret
    all_goals exact ⟨ret_bool (by first | (rw [E.out]; simp; done) | (simp [isInteger]; done) | (rw [E.out]; simp; omega) | (simp [isInteger]; omega)), rfl⟩

/-- The number as the reference sums it: on from 0, or from -1. -/
def acc (s : Int) (j : Nat) (xs : List Int) : Int := num (xs.take j) - s * 256 ^ j

theorem acc_zero (s : Int) (xs : List Int) : acc s 0 xs = - s := by simp [acc, num]
theorem acc_succ {s : Int} {j : Nat} {xs : List Int} (h : j < xs.length) : acc s (j + 1) xs = acc s j xs * 256 + xs.getD j 0 := by
  unfold acc
  rw [num_take_succ h, Int.pow_succ, ← Int.mul_assoc, Int.sub_mul]
  omega
theorem acc_step {r x : Int} : wrap64 (wrap64 (wrap64 r * 256) + x) = wrap64 (r * 256 + x) := by
  unfold wrap64; omega
theorem acc_done {xs : List Int} (hx : Byt xs) (h0 : 0 < xs.length) (h8 : xs.length ≤ 8) : wrap64 (acc (if 128 ≤ xs.getD 0 0 then 1 else 0) xs.length xs) = sgn xs := by
  have hl := lead hx h0
  obtain ⟨n0, n1⟩ := num_bound xs hx
  have hb := hx.getD 0
  unfold sgn acc
  rw [List.take_length]
  generalize hL : xs.length = L at *
  generalize num xs = v at *
  generalize xs.getD 0 0 = y at *
  have : L = 1 ∨ L = 2 ∨ L = 3 ∨ L = 4 ∨ L = 5 ∨ L = 6 ∨ L = 7 ∨ L = 8 := by omega
  rcases this with rfl | rfl | rfl | rfl | rfl | rfl | rfl | rfl <;> simp only [Nat.reduceSub, Int.reducePow] at * <;> unfold wrap64 <;> split <;> omega

/-- What IntOf tells. -/
def intVal (xs : List Int) : Option Int := if isInteger xs = true ∧ xs.length ≤ 8 then some (sgn xs) else none
def intEnd : Option Int → Ending
  | some v => .returned (.tuple #[.int .i64 v, .bool true])
  | none => .returned (.tuple #[.int .i64 0, .bool false])

set_option maxRecDepth 100000 in
set_option maxHeartbeats 1600000 in
theorem intOf_any (a : Option Addr) (n c : Nat) (xs : List Int) (B : Nat) (w : World) (hn : xs.length = n) (hb : BIn w B a xs) (hx : Byt xs) (hl : n ≤ 4194304000) :
    Calls Try.prog 63 #[.slice a n c] w fun e w' => e = intEnd (intVal xs) ∧ w = w' := by
  have I := Lib.hid (integer_any a n c xs B w hn hb hx)
  by_cases h8 : n ≤ 8
  · cases hi : isInteger xs with
    | false =>
      have V := Lib.hid (show intVal xs = none by unfold intVal; rw [if_neg (by simp [hi])])
      rw [hi] at I
      clear hn hb hx hi
      go_enter Try.func63, Try.ntmps63
      go_wp2_with fail
      refine I.out.mono ?_
      rintro e w1 ⟨rfl, rfl⟩
      go_wp2_with fail
      go_ret2
      exact ⟨by rw [V.out]; rfl, rfl⟩
    | true =>
      have h0 : 0 < n := by cases xs with | nil => simp [isInteger] at hi | cons => simp at hn; omega
      have V := Lib.hid (show intVal xs = some (sgn xs) by unfold intVal; rw [if_pos ⟨hi, by omega⟩])
      have D := Lib.hid (acc_done hx (by omega) (by omega))
      rw [hn] at D
      obtain ⟨b, o, rfl, hbB, hc⟩ := hb (by omega)
      have Hc := Lib.hid hc
      have Hn := Lib.hid hn
      have Hx := Lib.hid hx
      rw [hi] at I
      have Z : ∀ s : Int, 0 ≤ s → s ≤ 1 → wrap64 (acc s 0 xs) = - s := fun s h0 h1 => by rw [acc_zero]; unfold wrap64; omega
      have Z' := Lib.hid Z
      have i1 : ¬ (n : Int) > 8 := by omega
      have i0 : (0 : Int) < (n : Int) := by omega
      clear hn hb hx hi Z hc
      by_cases hneg : 128 ≤ xs.getD 0 0
      · rw [if_pos hneg] at D
        have hneg' : ¬ xs.getD 0 0 < 128 := by omega
        have e0 : w.cell? ⟨b, o, none⟩ = some (.int .u8 (xs.getD 0 0)) := Hc.out 0 (by have := Hn.out; omega)
        obtain ⟨x0, hX⟩ : ∃ x0, x0 = xs.getD 0 0 := ⟨_, rfl⟩
        rw [← hX] at e0 hneg hneg'
        clear hX
        go_enter Try.func63, Try.ntmps63
        go_wp2_with fail
        refine I.out.mono ?_
        rintro e w1 ⟨rfl, rfl⟩
        go_wp2_with fail
        go_loop [4, 5] (fun r i => ∃ j : Nat, j ≤ n ∧ i = .int .i64 j ∧ r = .int .i64 (wrap64 (acc 1 j xs))) (fun _ i => n - (intOf i).toNat)
        case atStart => exact ⟨0, Nat.zero_le _, rfl, by rw [Z'.out 1 (by omega) (by omega)] <;> rfl⟩
        case round =>
          obtain ⟨j, hj, rfl, rfl⟩ := hrel
          by_cases hlt : j < n
          · have hl : j < xs.length := by have := Hn.out; omega
            have ej := Hc.out j hl
            have S := Lib.hid (acc_succ (s := 1) hl)
            have U := Lib.hid (acc_step (r := acc 1 j xs) (x := xs.getD j 0))
            obtain ⟨g1, g2⟩ := Hx.out.getD j
            generalize xs.getD j 0 = x at *
            generalize acc 1 j xs = r at *
            go_wp2
            go_round
            case rel => exact ⟨j + 1, by omega, by go_num, by rw [S.out, ← U.out]⟩
            case measure => simp [intOf]; omega
          · have : j = n := by omega
            subst this
            go_wp2
            go_ret2
            exact ⟨by rw [V.out, D.out]; rfl, rfl⟩
      · rw [if_neg hneg] at D
        have e0 : w.cell? ⟨b, o, none⟩ = some (.int .u8 (xs.getD 0 0)) := Hc.out 0 (by have := Hn.out; omega)
        have hneg' : xs.getD 0 0 < 128 := by omega
        obtain ⟨x0, hX⟩ : ∃ x0, x0 = xs.getD 0 0 := ⟨_, rfl⟩
        rw [← hX] at e0 hneg hneg'
        clear hX
        go_enter Try.func63, Try.ntmps63
        go_wp2_with fail
        refine I.out.mono ?_
        rintro e w1 ⟨rfl, rfl⟩
        go_wp2_with fail
        go_loop [4, 5] (fun r i => ∃ j : Nat, j ≤ n ∧ i = .int .i64 j ∧ r = .int .i64 (wrap64 (acc 0 j xs))) (fun _ i => n - (intOf i).toNat)
        case atStart => exact ⟨0, Nat.zero_le _, rfl, by rw [Z'.out 0 (by omega) (by omega)] <;> rfl⟩
        case round =>
          obtain ⟨j, hj, rfl, rfl⟩ := hrel
          by_cases hlt : j < n
          · have hl : j < xs.length := by have := Hn.out; omega
            have ej := Hc.out j hl
            have S := Lib.hid (acc_succ (s := 0) hl)
            have U := Lib.hid (acc_step (r := acc 0 j xs) (x := xs.getD j 0))
            obtain ⟨g1, g2⟩ := Hx.out.getD j
            generalize xs.getD j 0 = x at *
            generalize acc 0 j xs = r at *
            go_wp2
            go_round
            case rel => exact ⟨j + 1, by omega, by go_num, by rw [S.out, ← U.out]⟩
            case measure => simp [intOf]; omega
          · have : j = n := by omega
            subst this
            go_wp2
            go_ret2
            exact ⟨by rw [V.out, D.out]; rfl, rfl⟩
  · have V := Lib.hid (show intVal xs = none by unfold intVal; rw [if_neg (by omega)])
    have h8' : (8 : Int) < n := by omega
    clear hn hb hx
    generalize isInteger xs = i at *
    cases i
    all_goals go_enter Try.func63, Try.ntmps63
    all_goals go_wp2_with fail
    all_goals refine I.out.mono ?_
    all_goals rintro e w1 ⟨rfl, rfl⟩
    all_goals go_wp2_with fail
    all_goals go_ret2
    all_goals exact ⟨by rw [V.out]; rfl, rfl⟩
end Go.Proofs.Ytcimjejbakgadaa
