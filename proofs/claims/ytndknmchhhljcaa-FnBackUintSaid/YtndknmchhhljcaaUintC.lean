/- The contract of asn1Unsigned. -/
import Derived.Test.YtndknmchhhljcaaIntC
namespace Go.Proofs.Ytndknmchhhljcaa
open Go.RowKit
set_option linter.unusedVariables false

/-- Contents of an integer from 0 on that 64 bits hold, if they are an integer's. -/
def fitsU (xs : List Int) : Bool := decide (xs.length ≤ 9) && !(decide (xs.length = 9) && decide (xs.getD 0 0 ≠ 0)) && decide (xs.getD 0 0 < 128)

def UsPost (go : Nat) (r : Bool) (v : Int) (w : World) (e : Ending) (w' : World) : Prop :=
  e = .returned (.bool r) ∧ Fr [go] w w' ∧ (r = true → Blk w' go 29 #[.int .u64 v]) ∧ (r = false → w = w')

theorem and128n {x : Int} (h0 : 0 ≤ x) (h1 : x < 256) : (bits .and .u8 x 128 != 0) = decide (128 ≤ x) := by
  rw [and128' h0 h1]
  by_cases h : x < 128
  · rw [if_pos h]; simp; omega
  · rw [if_neg h]; simp; omega

theorem num_zero (r : List Int) : num (0 :: r) = num r := by simp [num]
theorem u64or_step {r x : Int} (h0 : 0 ≤ r) (h1 : r < 256 ^ 7) (h2 : 0 ≤ x) (h3 : x < 256) : bits .or .u64 (IntKind.u64.wrap (r * 256)) (IntKind.u64.wrap x) = r * 256 + x := by
  rw [show (256 : Int) ^ 7 = 72057594037927936 by rfl] at h1
  rw [w64 (a := r * 256) (by omega) (by omega), w64 h2 (by omega), or_u64 8 (by omega) (by omega) h2 (by omega) (by omega) (by omega)]

set_option maxRecDepth 100000 in
set_option maxHeartbeats 1600000 in
theorem asn1Unsigned_any (go : Nat) (a : Option Addr) (n c : Nat) (xs : List Int) (B : Nat) (w : World) (ho : Blk w go 29 #[.int .u64 0]) (hBo : B ≤ go) (hn : xs.length = n) (h0 : 0 < n) (hb : BIn w B a xs) (hx : Byt xs) :
    Calls Try.prog 153 #[.pointer (some ⟨go, 0, none⟩), .slice a n c] w (UsPost go (fitsU xs) (num xs) w) := by
  obtain ⟨b, o, rfl, hbB, hc⟩ := hb (by omega)
  have hbo : ¬ b = go := by omega
  have e0 : w.cell? ⟨b, o, none⟩ = some (.int .u8 (xs.getD 0 0)) := hc 0 (by omega)
  obtain ⟨x0, x1⟩ := hx.getD 0
  have A := and128n x0 x1
  have F := Lib.hid (show fitsU xs = (decide (n ≤ 9) && !(decide (n = 9) && decide (xs.getD 0 0 ≠ 0)) && decide (xs.getD 0 0 < 128)) by unfold fitsU; rw [hn])
  have Hn := Lib.hid hn
  have Hx := Lib.hid hx
  have Hc := Lib.hid hc
  have Ho := Lib.hid ho
  have i0 : (0 : Int) < (n : Int) := by omega
  have P0 := Lib.hid (show fitsU xs = false → UsPost go (fitsU xs) (num xs) w (.returned (.bool false)) w from fun h => ⟨by rw [h], Fr.refl _ _, fun k => (by rw [h] at k; cases k), fun _ => rfl⟩)
  by_cases h9 : n ≤ 9
  · by_cases h8 : n = 9 ∧ xs.getD 0 0 ≠ 0
    · have G := Lib.hid (P0.out (by rw [F.out, h8.1]; have := h8.2; simp; intro h; exact absurd h (by simpa using this)))
      obtain ⟨rfl, h8⟩ := h8
      have t1 : (xs.getD 0 0 != 0) = true := by simpa using h8
      generalize xs.getD 0 0 = x at *
      clear hn hx hc ho hb P0 A h8 F
      go_enter Try.func153, Try.ntmps153
      go_wp2
      go_ret
      exact G.out
    · by_cases hx0 : 128 ≤ xs.getD 0 0
      · have G := Lib.hid (P0.out (by rw [F.out]; have : ¬ xs.getD 0 0 < 128 := by omega
                                      simp only [this, decide_false, Bool.and_false]))
        have A' : (bits .and .u8 (xs.getD 0 0) 128 != 0) = true := by rw [A]; simpa using hx0
        have hn9 : ((n : Int) == 9) = false := by simp; omega
        have h9' : ¬ (9 : Int) < n := by omega
        generalize xs.getD 0 0 = x at *
        clear hn hx hc ho hb P0 A h8 F
        go_enter Try.func153, Try.ntmps153
        go_wp2
        go_ret
        exact G.out
      · have Y := Lib.hid (show fitsU xs = true by
          rw [F.out]; have h1 : xs.getD 0 0 < 128 := by omega
          have h2 : ¬ (n = 9 ∧ xs.getD 0 0 ≠ 0) := h8
          simp only [h9, h1, decide_true, Bool.true_and, Bool.and_true]
          by_cases h : n = 9 <;> simp_all)
        have A' : (bits .and .u8 (xs.getD 0 0) 128 != 0) = false := by rw [A]; simpa using hx0
        have Small := Lib.hid (show ∀ j, j < n → 0 ≤ num (xs.take j) ∧ num (xs.take j) < 256 ^ 7 from by
          intro j hj
          by_cases hj7 : j ≤ 7
          · exact num_small (xs.take j) 7 (hx.take j) (by simp; omega)
          · have hn9 : n = 9 := by omega
            have hj8 : j = 8 := by omega
            have hx0' : xs.getD 0 0 = 0 := Decidable.byContradiction fun h => h8 ⟨hn9, h⟩
            match xs, hn, hx, hx0' with
            | [], hn, _, _ => simp at hn; omega
            | x :: r, hn, hx, hz =>
              simp at hz
              subst hz
              rw [hj8, List.take_succ_cons, num_zero]
              exact num_small (r.take 7) 7 (fun y hy => hx y (List.mem_cons_of_mem _ (List.mem_of_mem_take hy))) (by simp; omega))
        have Z0 := Lib.hid (show num (xs.take 0) = 0 by simp [num])
        have h9' : ¬ (9 : Int) < n := by omega
        by_cases hn9 : n = 9
        · have hx0' : xs.getD 0 0 = 0 := Decidable.byContradiction fun h => h8 ⟨hn9, h⟩
          have hq : ((n : Int) == 9) = true := by simp; omega
          have t1 : (xs.getD 0 0 != 0) = false := by rw [hx0']; rfl
          obtain ⟨x, hX⟩ : ∃ x, x = xs.getD 0 0 := ⟨_, rfl⟩
          rw [← hX] at e0 A' t1
          clear hX hn hx hc ho hb P0 A h8 F x0 x1 hn9 hx0 hx0'
          go_enter Try.func153, Try.ntmps153
          go_wp2_with fail
          go_loopw [6] (fun i wr => ∃ j : Nat, j ≤ n ∧ i = .int .i64 j ∧ Blk wr go 29 #[.int .u64 (num (xs.take j))] ∧ Fr [go] w wr) (fun i _ => n - (intOf i).toNat)
          case atStart => exact ⟨0, Nat.zero_le _, rfl, by rw [Z0.out]; exact Ho.out, Fr.refl _ _⟩
          case round =>
            obtain ⟨j, hj, rfl, hcell, hfr⟩ := hrel
            by_cases hlt : j < n
            · have hl : j < xs.length := by have := Hn.out; omega
              have c0 := hcell.one
              have f0 := hcell.frozen 0
              have ej : wr.cell? ⟨b, o + j, none⟩ = some (.int .u8 (xs.getD j 0)) := (World.cell?_of_block (w := w) (hfr.block b (World.block_lt_of_cell? w _ (Hc.out j hl)) (by simp; omega))).trans (Hc.out j hl)
              have s0 := Small.out j hlt
              have S := Lib.hid (num_take_succ hl)
              obtain ⟨g1, g2⟩ := Hx.out.getD j
              have U := Lib.hid (u64or_step s0.1 s0.2 g1 g2)
              have Hcell := Lib.hid hcell
              have Hfr := Lib.hid hfr
              clear s0 hcell hfr
              generalize xs.getD j 0 = y at *
              generalize num (xs.take j) = r at *
              go_wp2_with fail
              refine region_tail 10 (by kernel_rfl) (by kernel_rfl) ?_
              simp only [List.take_succ_cons, List.take_zero, List.drop_succ_cons, List.drop_zero]
              repeat still_step
              refine wpStill_nil ?_
              rw [U.out]
              go_wp2
              go_roundw
              case rel => exact ⟨j + 1, by omega, by go_num, by rw [S.out]; exact (((Hcell.out.set_ 0 _).drew).set_ 0 _), (((Hfr.out.set_ (.inl (by simp)) _).drew).set_ (.inl (by simp)) _)⟩
              case measure => simp [intOf]; omega
            · have hjn : j = n := by omega
              subst hjn
              have ht : xs.take j = xs := List.take_of_length_le (Nat.le_of_eq Hn.out)
              rw [ht] at hcell
              have Hcell := Lib.hid hcell
              have Hfr := Lib.hid hfr
              clear ht hcell hfr
              go_wp2
              go_ret
              exact ⟨by rw [Y.out]; rfl, Hfr.out, fun _ => Hcell.out, fun h => by rw [Y.out] at h; cases h⟩
        · have hq : ((n : Int) == 9) = false := by simp; omega
          obtain ⟨x, hX⟩ : ∃ x, x = xs.getD 0 0 := ⟨_, rfl⟩
          rw [← hX] at e0 A'
          clear hX hn hx hc ho hb P0 A h8 F x0 x1 hn9 hx0
          go_enter Try.func153, Try.ntmps153
          go_wp2_with fail
          go_loopw [6] (fun i wr => ∃ j : Nat, j ≤ n ∧ i = .int .i64 j ∧ Blk wr go 29 #[.int .u64 (num (xs.take j))] ∧ Fr [go] w wr) (fun i _ => n - (intOf i).toNat)
          case atStart => exact ⟨0, Nat.zero_le _, rfl, by rw [Z0.out]; exact Ho.out, Fr.refl _ _⟩
          case round =>
            obtain ⟨j, hj, rfl, hcell, hfr⟩ := hrel
            by_cases hlt : j < n
            · have hl : j < xs.length := by have := Hn.out; omega
              have c0 := hcell.one
              have f0 := hcell.frozen 0
              have ej : wr.cell? ⟨b, o + j, none⟩ = some (.int .u8 (xs.getD j 0)) := (World.cell?_of_block (w := w) (hfr.block b (World.block_lt_of_cell? w _ (Hc.out j hl)) (by simp; omega))).trans (Hc.out j hl)
              have s0 := Small.out j hlt
              have S := Lib.hid (num_take_succ hl)
              obtain ⟨g1, g2⟩ := Hx.out.getD j
              have U := Lib.hid (u64or_step s0.1 s0.2 g1 g2)
              have Hcell := Lib.hid hcell
              have Hfr := Lib.hid hfr
              clear s0 hcell hfr
              generalize xs.getD j 0 = y at *
              generalize num (xs.take j) = r at *
              go_wp2_with fail
              refine region_tail 10 (by kernel_rfl) (by kernel_rfl) ?_
              simp only [List.take_succ_cons, List.take_zero, List.drop_succ_cons, List.drop_zero]
              repeat still_step
              refine wpStill_nil ?_
              rw [U.out]
              go_wp2
              go_roundw
              case rel => exact ⟨j + 1, by omega, by go_num, by rw [S.out]; exact (((Hcell.out.set_ 0 _).drew).set_ 0 _), (((Hfr.out.set_ (.inl (by simp)) _).drew).set_ (.inl (by simp)) _)⟩
              case measure => simp [intOf]; omega
            · have hjn : j = n := by omega
              subst hjn
              have ht : xs.take j = xs := List.take_of_length_le (Nat.le_of_eq Hn.out)
              rw [ht] at hcell
              have Hcell := Lib.hid hcell
              have Hfr := Lib.hid hfr
              clear ht hcell hfr
              go_wp2
              go_ret
              exact ⟨by rw [Y.out]; rfl, Hfr.out, fun _ => Hcell.out, fun h => by rw [Y.out] at h; cases h⟩
  · have G := Lib.hid (P0.out (by rw [F.out]; simp; omega))
    have h9' : (9 : Int) < n := by omega
    clear hn hx hc ho hb P0 A e0 x0 x1 F
    go_enter Try.func153, Try.ntmps153
    go_wp2
    go_ret
    exact G.out
end Go.Proofs.Ytndknmchhhljcaa
