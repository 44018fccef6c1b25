/- The walk of laws.FnHalves. -/
import Derived.Test.YtcimjejbakgadaaRead2
import Derived.Test.YtcimjejbakgadaaSpec0
import Derived.BigQuiet
import Derived.Deep.QuietTactic
import Derived.Outline
namespace Go.Proofs.Ytcimjejbakgadaa
open Go.RowKit
set_option linter.unusedVariables false

theorem halves_eq (x0 x1 x2 x3 x4 x5 : Int) : num [x0, x1] = 256 * x0 + x1 ∧ num [x0, x1, x2] = 65536 * x0 + num [x1, x2] ∧ num [x0, x1, x2, x3, x4, x5] = num [x0, x1] * 4294967296 + num [x2, x3, x4, x5] := by
  simp only [num, List.foldl_cons, List.foldl_nil]
  omega
theorem num2_bd {x y : Int} (hx : 0 ≤ x ∧ x < 256) (hy : 0 ≤ y ∧ y < 256) : 0 ≤ num [x, y] ∧ num [x, y] ≤ 65535 := by
  simp only [num, List.foldl_cons, List.foldl_nil]; omega
theorem num4_bd {x y z u : Int} (hx : 0 ≤ x ∧ x < 256) (hy : 0 ≤ y ∧ y < 256) (hz : 0 ≤ z ∧ z < 256) (hu : 0 ≤ u ∧ u < 256) : 0 ≤ num [x, y, z, u] ∧ num [x, y, z, u] ≤ 4294967295 := by
  simp only [num, List.foldl_cons, List.foldl_nil]; omega

set_option maxRecDepth 100000 in
set_option maxHeartbeats 1600000 in
theorem main_FnHalves (w : World) (a : Option Addr) (n c : Nat) (x0 x1 x2 x3 x4 x5 : Int) (r : List Int) (hn : r.length + 6 = n) (hb : BIn w w.heap.size a (x0 :: x1 :: x2 :: x3 :: x4 :: x5 :: r)) (hx : Byt (x0 :: x1 :: x2 :: x3 :: x4 :: x5 :: r)) (hc : n ≤ c) (hm : c ≤ maxLen) (h0 : n ≤ 1048576) :
    Calls Try.prog 12 #[.slice a n c] w fun e w' => e = .returned (.bool true) ∧ Below w.heap.size w w' := by
  obtain ⟨b, o, rfl, hbB, hcell⟩ := hb (by simp)
  have hbB' := hbB
  have HB := Lib.hid hb
  have Hx := Lib.hid hx
  have Hn := Lib.hid hn
  have Hc := Lib.hid hcell
  have K8 := Lib.hid (iReadU8_yes (some ⟨b, o, none⟩) n c x0 (x1 :: x2 :: x3 :: x4 :: x5 :: r) w (by simp; omega) hb (by omega) hx)
  have K1 := Lib.hid (fun W (a1 : Option Addr) (c1 : Nat) (h : BIn W W.heap.size a1 (x1 :: x2 :: x3 :: x4 :: x5 :: r)) => iReadU8_yes a1 (n - 1) c1 x1 (x2 :: x3 :: x4 :: x5 :: r) W (by simp; omega) h (by omega) (fun y hy => hx y (List.mem_cons_of_mem _ hy)))
  have K16 := Lib.hid (fun W (h : BIn W W.heap.size (some ⟨b, o, none⟩) (x0 :: x1 :: x2 :: x3 :: x4 :: x5 :: r)) => iReadU16_yes (some ⟨b, o, none⟩) n c x0 x1 (x2 :: x3 :: x4 :: x5 :: r) W (by simp; omega) h (by omega) hx)
  have K16b := Lib.hid (fun W (a1 : Option Addr) (c1 : Nat) (h : BIn W W.heap.size a1 (x1 :: x2 :: x3 :: x4 :: x5 :: r)) => iReadU16_yes a1 (n - 1) c1 x1 x2 (x3 :: x4 :: x5 :: r) W (by simp; omega) h (by omega) (fun y hy => hx y (List.mem_cons_of_mem _ hy)))
  have K24 := Lib.hid (fun W (h : BIn W W.heap.size (some ⟨b, o, none⟩) (x0 :: x1 :: x2 :: x3 :: x4 :: x5 :: r)) => iReadU24_yes (some ⟨b, o, none⟩) n c x0 x1 x2 (x3 :: x4 :: x5 :: r) W (by simp; omega) h (by omega) hx)
  have K32 := Lib.hid (fun W (a1 : Option Addr) (c1 : Nat) (h : BIn W W.heap.size a1 (x2 :: x3 :: x4 :: x5 :: r)) => iReadU32_yes a1 (n - 2) c1 x2 x3 x4 x5 r W (by omega) h (by omega) (fun y hy => hx y (List.mem_cons_of_mem _ (List.mem_cons_of_mem _ hy))))
  have K48 := Lib.hid (fun W (h : BIn W W.heap.size (some ⟨b, o, none⟩) (x0 :: x1 :: x2 :: x3 :: x4 :: x5 :: r)) => iReadU48_yes (some ⟨b, o, none⟩) n c x0 x1 x2 x3 x4 x5 r W (by omega) h (by omega) hx)
  have l0 := hx x0 (by simp)
  have l1 := hx x1 (by simp)
  have l2 := hx x2 (by simp)
  have l3 := hx x3 (by simp)
  have l4 := hx x4 (by simp)
  have l5 := hx x5 (by simp)
  obtain ⟨z1, z2, z3⟩ := halves_eq x0 x1 x2 x3 x4 x5
  have Z1 := Lib.hid z1
  have Z2 := Lib.hid z2
  have Z3 := Lib.hid z3
  have Q0 := Lib.hid (num_one x0)
  have Q1 := Lib.hid (num_one x1)
  have bd1 := num2_bd l0 l1
  have bd2 := num2_bd l1 l2
  have bd3 := num4_bd l2 l3 l4 l5
  have i6 : ¬ (n : Int) < 6 := by omega
  have i0 : (0 : Int) < (n : Int) := by omega
  have i1 : (1 : Int) < (n : Int) := by omega
  obtain ⟨l00, l01⟩ := l0
  obtain ⟨l10, l11⟩ := l1
  clear hb hx hn hcell l2 l3 l4 l5 z1 z2 z3
  go_enter Try.func12, Try.ntmps12
  go_wp2_with fail
  refine (fits_any _ n c _ h0).mono ?_
  rintro e w' ⟨rfl, rfl⟩
  go_wp2_with fail
  refine K8.out.mono ?_
  rintro e w1 ⟨a1, c1, rfl, _, _, p1, q1⟩
  rw [Q0.out]
  go_wp2_with fail
  refine (K1.out w1 a1 c1 p1).mono ?_
  rintro e w2 ⟨a2, c2, rfl, _, _, p2, q2⟩
  rw [Q1.out]
  have t2 := q1.trans (q2.mono q1.size)
  go_wp2_with fail
  refine (K16.out w2 ((HB.out.below t2).lt)).mono ?_
  rintro e w3 ⟨a3, c3, rfl, _, _, p3, q3⟩
  rw [Z1.out]
  have t3 := t2.trans (q3.mono t2.size)
  have u3 := q2.trans (q3.mono q2.size)
  go_wp2_with fail
  refine (K16b.out w3 a1 c1 ((p1.below u3).lt)).mono ?_
  rintro e w4 ⟨a4, c4, rfl, _, _, p4, q4⟩
  have t4 := t3.trans (q4.mono t3.size)
  go_wp2_with fail
  refine (K24.out w4 ((HB.out.below t4).lt)).mono ?_
  rintro e w5 ⟨a5, c5, rfl, _, _, p5, q5⟩
  rw [Z2.out]
  have t5 := t4.trans (q5.mono t4.size)
  go_wp2_with fail
  refine (K16.out w5 ((HB.out.below t5).lt)).mono ?_
  rintro e w6 ⟨a6, c6, rfl, _, _, p6, q6⟩
  have t6 := t5.trans (q6.mono t5.size)
  go_wp2_with fail
  refine (K32.out w6 a6 c6 p6).mono ?_
  rintro e w7 ⟨a7, c7, rfl, _, _, p7, q7⟩
  have t7 := t6.trans (q7.mono t6.size)
  go_wp2_with fail
  refine (K48.out w7 ((HB.out.below t7).lt)).mono ?_
  rintro e w8 ⟨a8, c8, rfl, _, _, p8, q8⟩
  rw [Z3.out, Z1.out]
  have t8 := t7.trans (q8.mono t7.size)
  have e0 : w8.cell? ⟨b, o, none⟩ = some (.int .u8 x0) := (t8.cell (p := ⟨b, o, none⟩) hbB').trans (Hc.out 0 (by simp))
  have e1 : w8.cell? ⟨b, o + 1, none⟩ = some (.int .u8 x1) := (t8.cell (p := ⟨b, o + 1, none⟩) hbB').trans (Hc.out 1 (by simp))
  obtain ⟨b10, b11⟩ := bd1
  obtain ⟨b20, b21⟩ := bd2
  obtain ⟨b30, b31⟩ := bd3
  generalize num [x1, x2] = D at *
  generalize num [x2, x3, x4, x5] = F at *
  rw [Z1.out] at b10 b11
  have wA : IntKind.i64.wrap (256 * x0) = 256 * x0 := wi64 (by omega) (by omega)
  have wB : IntKind.i64.wrap (256 * x0 + x1) = 256 * x0 + x1 := wi64 (by omega) (by omega)
  have wC : IntKind.i64.wrap (65536 * x0) = 65536 * x0 := wi64 (by omega) (by omega)
  have wD : IntKind.i64.wrap (65536 * x0 + D) = 65536 * x0 + D := wi64 (by omega) (by omega)
  have wE : IntKind.i64.wrap ((256 * x0 + x1) * 4294967296) = (256 * x0 + x1) * 4294967296 := wi64 (by omega) (by omega)
  have wF : IntKind.i64.wrap ((256 * x0 + x1) * 4294967296 + F) = (256 * x0 + x1) * 4294967296 + F := wi64 (by omega) (by omega)
  have T8 := Lib.hid t8
  clear p1 q1 p2 q2 p3 q3 p4 q4 p5 q5 p6 q6 p7 q7 p8 q8 t2 t3 t4 t5 t6 t7 t8 u3
  go_wp2_with fail
  go_ret
  exact ⟨rfl, T8.out⟩

set_option maxRecDepth 100000 in
set_option maxHeartbeats 800000 in
theorem walk_FnHalves (w : World) (a : Option Addr) (n c : Nat) (xs : List Int) (hn : xs.length = n) (hb : BIn w w.heap.size a xs) (hx : Byt xs) (hc : n ≤ c) (hm : c ≤ maxLen) :
    Calls Try.prog 12 #[.slice a n c] w fun e w' => e = .returned (.bool true) ∧ Below w.heap.size w w' := by
  by_cases h0 : n ≤ 1048576
  · by_cases h6 : 6 ≤ n
    · match xs, hn, hb, hx with
      | [], hn, _, _ => simp at hn; omega
      | [_], hn, _, _ => simp at hn; omega
      | [_, _], hn, _, _ => simp at hn; omega
      | [_, _, _], hn, _, _ => simp at hn; omega
      | [_, _, _, _], hn, _, _ => simp at hn; omega
      | [_, _, _, _, _], hn, _, _ => simp at hn; omega
      | x0 :: x1 :: x2 :: x3 :: x4 :: x5 :: r, hn, hb, hx => exact main_FnHalves w a n c x0 x1 x2 x3 x4 x5 r (by simp at hn; omega) hb hx hc hm h0
    · have h6' : (n : Int) < 6 := by omega
      clear hn hb hx
      go_enter Try.func12, Try.ntmps12
      go_wp2_with fail
      refine (fits_any a n c _ h0).mono ?_
      rintro e w' ⟨rfl, rfl⟩
      go_wp2
      go_ret
      exact ⟨rfl, Below.refl _ _⟩
  · by_cases hz : n ≤ 2147483647
    · clear hn hb hx
      go_enter Try.func12, Try.ntmps12
      go_wp2_with fail
      refine (fits_no a n c _ (by omega)).mono ?_
      rintro e w' ⟨rfl, rfl⟩
      go_wp2
      go_ret
      exact ⟨rfl, Below.refl _ _⟩
    · clear hn hb hx
      go_enter Try.func12, Try.ntmps12
      go_wp2
      go_ret
      exact ⟨rfl, Below.refl _ _⟩
end Go.Proofs.Ytcimjejbakgadaa
