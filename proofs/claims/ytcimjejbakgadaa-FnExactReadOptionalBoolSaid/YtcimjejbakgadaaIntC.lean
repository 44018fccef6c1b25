/- The contracts of checkASN1Integer and asn1Signed. -/
import Derived.Test.YtcimjejbakgadaaInt
import Derived.Test.YtcimjejbakgadaaDer0
namespace Go.Proofs.Ytcimjejbakgadaa
open Go.RowKit
set_option linter.unusedVariables false

theorem and128' {x : Int} (h0 : 0 ≤ x) (h1 : x < 256) : bits .and .u8 x 128 = if x < 128 then 0 else 128 := by
  rw [u8_and x 128 h0 h1 (by omega) (by omega)]
  have h : x.toNat &&& (128 : Int).toNat = x.toNat / 2 ^ 7 % 2 * 2 ^ 7 := nat_bit 7 x.toNat
  rw [h]
  split <;> omega

set_option maxRecDepth 100000 in
set_option maxHeartbeats 800000 in
theorem check_any (a : Option Addr) (n c : Nat) (xs : List Int) (B : Nat) (w : World) (hn : xs.length = n) (hb : BIn w B a xs) (hx : Byt xs) :
    Calls Try.prog 106 #[.slice a n c] w fun e w' => e = .returned (.bool (isInteger xs)) ∧ w = w' := by
  match xs, hn, hb, hx with
  | [], hn, hb, hx =>
    simp at hn; subst hn
    go_enter Try.func106, Try.ntmps106
    go_wp2
    go_ret
    exact ⟨rfl, rfl⟩
  | [x], hn, hb, hx =>
    simp at hn; subst hn
    go_enter Try.func106, Try.ntmps106
    go_wp2
    go_ret
    exact ⟨rfl, rfl⟩
  | x :: y :: r, hn, hb, hx =>
    obtain ⟨b, o, rfl, _, hc⟩ := hb (by simp)
    have e0 : w.cell? ⟨b, o, none⟩ = some (.int .u8 x) := hc 0 (by simp)
    have e1 : w.cell? ⟨b, o + 1, none⟩ = some (.int .u8 y) := hc 1 (by simp)
    obtain ⟨x0, x1⟩ := hx x (by simp)
    obtain ⟨y0, y1⟩ := hx y (by simp)
    have i0 : (1 : Int) < (n : Int) := by simp at hn; omega
    have i1 : 1 < n := by omega
    have i2 : ((n : Int) == 0) = false := by simp; omega
    have i3 : ((n : Int) == 1) = false := by simp; omega
    have i4 : 0 < n := by omega
    have E := Lib.hid (show isInteger (x :: y :: r) = (!(x == 0 && decide (y < 128)) && !(x == 255 && decide (128 ≤ y))) from rfl)
    by_cases hy : y < 128
    · have t1 : (bits .and .u8 y 128 == 0) = true := by rw [show bits .and .u8 y 128 = 0 by rw [and128' y0 y1, if_pos hy]]; rfl
      have t2 : (bits .and .u8 y 128 == 128) = false := by rw [show bits .and .u8 y 128 = 0 by rw [and128' y0 y1, if_pos hy]]; rfl
      clear hn hb hx hc
      by_cases hx0 : x = 0
      · have t3 : (x == 0) = true := by simp [hx0]
        have E2 := Lib.hid (show isInteger (x :: y :: r) = false by rw [E.out]; simp [hx0, hy])
        clear hx0
        go_enter Try.func106, Try.ntmps106
        go_wp2
        go_ret
        exact ⟨ret_bool (by rw [E2.out]), rfl⟩
      · have t3 : (x == 0) = false := by simp [hx0]
        have E2 := Lib.hid (show isInteger (x :: y :: r) = true by rw [E.out]; simp [hx0, hy])
        clear hx0
        by_cases hx1 : x = 255
        · have t4 : (x == 255) = true := by simp [hx1]
          clear hx1
          go_enter Try.func106, Try.ntmps106
          go_wp2
          go_ret
          exact ⟨ret_bool (by rw [E2.out]), rfl⟩
        · have t4 : (x == 255) = false := by simp [hx1]
          clear hx1
          go_enter Try.func106, Try.ntmps106
          go_wp2
          go_ret
          exact ⟨ret_bool (by rw [E2.out]), rfl⟩
    · have t1 : (bits .and .u8 y 128 == 0) = false := by rw [show bits .and .u8 y 128 = 128 by rw [and128' y0 y1, if_neg hy]]; rfl
      have t2 : (bits .and .u8 y 128 == 128) = true := by rw [show bits .and .u8 y 128 = 128 by rw [and128' y0 y1, if_neg hy]]; rfl
      clear hn hb hx hc
      by_cases hx1 : x = 255
      · have t4 : (x == 255) = true := by simp [hx1]
        have t3 : (x == 0) = false := by simp [hx1]
        have E2 := Lib.hid (show isInteger (x :: y :: r) = false by rw [E.out]; simp [hx1]; omega)
        clear hx1
        go_enter Try.func106, Try.ntmps106
        go_wp2
        go_ret
        exact ⟨ret_bool (by rw [E2.out]), rfl⟩
      · have t4 : (x == 255) = false := by simp [hx1]
        have E2 := Lib.hid (show isInteger (x :: y :: r) = true by rw [E.out]; simp [hx1]; omega)
        clear hx1
        by_cases hx0 : x = 0
        · have t3 : (x == 0) = true := by simp [hx0]
          clear hx0
          go_enter Try.func106, Try.ntmps106
          go_wp2
          go_ret
          exact ⟨ret_bool (by rw [E2.out]), rfl⟩
        · have t3 : (x == 0) = false := by simp [hx0]
          clear hx0
          go_enter Try.func106, Try.ntmps106
          go_wp2
          go_ret
          exact ⟨ret_bool (by rw [E2.out]), rfl⟩

theorem asn1Signed_no (go : Nat) (a : Option Addr) (n c : Nat) (w : World) (h : 8 < n) :
    Calls Try.prog 107 #[.pointer (some ⟨go, 0, none⟩), .slice a n c] w fun e w' => e = .returned (.bool false) ∧ w = w' := by
  go_enter Try.func107, Try.ntmps107
  go_wp2
  go_ret
  exact ⟨rfl, rfl⟩

theorem Blk.val {w : World} {g : Nat} {t : TypeId} {u v : Int} (h : Blk w g t #[.int .i64 u]) (e : u = v) : Blk w g t #[.int .i64 v] := e ▸ h

/-- What asn1Signed leaves: the number's box. -/
def SgPost (go : Nat) (v : Int) (w : World) (e : Ending) (w' : World) : Prop :=
  e = .returned (.bool true) ∧ Fr [go] w w' ∧ Blk w' go 2 #[.int .i64 v]

set_option maxRecDepth 100000 in
set_option maxHeartbeats 1600000 in
theorem asn1Signed_yes (go : Nat) (a : Option Addr) (n c : Nat) (xs : List Int) (B : Nat) (w : World) (ho : Blk w go 2 #[.int .i64 0]) (hBo : B ≤ go) (hn : xs.length = n) (h0 : 0 < n) (h8 : n ≤ 8) (hb : BIn w B a xs) (hx : Byt xs) :
    Calls Try.prog 107 #[.pointer (some ⟨go, 0, none⟩), .slice a n c] w (SgPost go (sgn xs) w) := by
  obtain ⟨b, o, rfl, hbB, hc⟩ := hb (by omega)
  have hbo : ¬ b = go := by omega
  have Hn := Lib.hid hn
  have Hx := Lib.hid hx
  have Hc := Lib.hid hc
  have Ho := Lib.hid ho
  have z0 : wrap64 (num (xs.take 0)) = 0 := by simp [num, wrap64]
  have Z0 := Lib.hid z0
  have Sh := Lib.hid (sgn_shift hx hn h0 h8)
  clear hn hx hc ho hb z0
  go_enter Try.func107, Try.ntmps107
  go_wp2
  go_loopw [6] (fun i wr => ∃ j : Nat, j ≤ n ∧ i = .int .i64 j ∧ Blk wr go 2 #[.int .i64 (wrap64 (num (xs.take j)))] ∧ Fr [go] w wr) (fun i _ => n - (intOf i).toNat)
  case atStart => exact ⟨0, Nat.zero_le _, rfl, by rw [Z0.out]; exact Ho.out, Fr.refl _ _⟩
  case round =>
    obtain ⟨j, hj, rfl, hcell, hfr⟩ := hrel
    by_cases hlt : j < n
    · have hl : j < xs.length := by have := Hn.out; omega
      have c0 := hcell.one
      have f0 := hcell.frozen 0
      have e0 : wr.cell? ⟨b, o + j, none⟩ = some (.int .u8 (xs.getD j 0)) := (World.cell?_of_block (w := w) (hfr.block b (World.block_lt_of_cell? w _ (Hc.out j hl)) (by simp; omega))).trans (Hc.out j hl)
      have s0 := num_small (xs.take j) 7 (Hx.out.take j) (by simp; omega)
      have S := Lib.hid (num_take_succ hl)
      obtain ⟨g1, g2⟩ := Hx.out.getD j
      have w0 : wrap64 (num (xs.take j)) = num (xs.take j) := by
        have h2 := s0.2
        rw [show (256 : Int) ^ 7 = 72057594037927936 by rfl] at h2
        unfold wrap64; omega
      rw [w0] at c0
      have wx : IntKind.i64.wrap (xs.getD j 0) = xs.getD j 0 := by rw [IntKind.wrap_i64]; omega
      have U := Lib.hid (show bits .or .i64 (wrap64 (num (xs.take j) * 256)) (IntKind.i64.wrap (xs.getD j 0)) = wrap64 (num (xs.take j) * 256 + xs.getD j 0) by rw [wx]; exact signed_step (r := num (xs.take j)) g1 g2)
      have Hcell := Lib.hid hcell
      have Hfr := Lib.hid hfr
      clear s0 w0 wx hcell hfr
      generalize xs.getD j 0 = x at *
      generalize num (xs.take j) = r at *
      go_wp2_with fail
      refine region_tail 10 (by kernel_rfl) (by kernel_rfl) ?_
      simp only [List.take_succ_cons, List.take_zero, List.drop_succ_cons, List.drop_zero]
      repeat still_step
      refine wpStill_nil ?_
      rw [U.out]
      go_wp2
      go_roundw
      case rel => exact ⟨j + 1, by omega, by go_num, by rw [S.out]; exact (((Hcell.out.set_ 0 _).drew).set_ 0 _), (((Hfr.out.set_ (.inl (by simp)) _).drew).set_ (.inl (by simp)) _)⟩
      case measure => simp [intOf]; omega
    · have hjn : j = n := by omega
      subst hjn
      have h1 : j = 1 ∨ j = 2 ∨ j = 3 ∨ j = 4 ∨ j = 5 ∨ j = 6 ∨ j = 7 ∨ j = 8 := by omega
      have ht : xs.take j = xs := List.take_of_length_le (Nat.le_of_eq Hn.out)
      rw [ht] at hcell
      have c0 := hcell.one
      have f0 := hcell.frozen 0
      have Hcell := Lib.hid hcell
      have Hfr := Lib.hid hfr
      clear ht hcell hfr hlt hj h0 h8
      generalize num xs = v at *
      rcases h1 with rfl | rfl | rfl | rfl | rfl | rfl | rfl | rfl
      all_goals go_wp2
      all_goals go_ret
      all_goals first
        | exact ⟨rfl, ((Hfr.out.set_ (.inl (by simp)) _).set_ (.inl (by simp)) _), Blk.val ((Hcell.out.set_ 0 _).set_ 0 _) Sh.out⟩
        | exact ⟨rfl, ((Hfr.out.set_ (.inl (by simp)) _).set_ (.inl (by simp)) _), Blk.val ((Hcell.out.set_ 0 _).set_ 0 _) (by have := Sh.out; simpa using this)⟩
end Go.Proofs.Ytcimjejbakgadaa
