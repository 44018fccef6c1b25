/- The contracts of the reference's OIDRight and (on equal lists) SameInts. -/
import Derived.Test.YtdnepnnkpaoaaaaGInts
import Derived.Test.YtdnepnnkpaoaaaaOid
namespace Go.Proofs.Ytdnepnnkpaoaaaa
open Go.RowKit
set_option linter.unusedVariables false

/-- What OIDRight asks of arcs. -/
def arcOk (z : Int) : Bool := decide (0 ≤ z) && decide (z ≤ 2147483647)
def oidR (zs : List Int) : Bool := decide (2 ≤ zs.length) && decide (0 ≤ zs.getD 0 0) && decide (zs.getD 0 0 ≤ 2) && !(decide (zs.getD 0 0 < 2) && decide (40 ≤ zs.getD 1 0)) && !(decide (zs.getD 0 0 = 2) && decide (2147483567 < zs.getD 1 0)) && (zs.drop 1).all arcOk

theorem arc_take {zs : List Int} {k : Nat} (h : ((zs.drop 1).take k).all arcOk = true) (hk : k + 1 < zs.length) (h0 : arcOk (zs.getD (k + 1) 0) = true) : ((zs.drop 1).take (k + 1)).all arcOk = true := by
  have hk' : k < (zs.drop 1).length := by rw [List.length_drop]; omega
  rw [List.take_succ_eq_append_getElem hk', List.all_append, h]
  rw [List.getD_eq_getElem?_getD, List.getElem?_eq_getElem hk] at h0
  simp only [Option.getD_some] at h0
  simp [h0]
theorem arc_not {zs : List Int} {k : Nat} (hk : k + 1 < zs.length) (h0 : arcOk (zs.getD (k + 1) 0) = false) : (zs.drop 1).all arcOk = false := by
  rw [List.getD_eq_getElem?_getD, List.getElem?_eq_getElem hk] at h0
  simp only [Option.getD_some] at h0
  rw [List.all_eq_false]
  refine ⟨zs[k + 1], ?_, by simp [h0]⟩
  rw [List.mem_iff_getElem]
  exact ⟨k, by rw [List.length_drop]; omega, by simp⟩

set_option maxRecDepth 100000 in
set_option maxHeartbeats 1600000 in
theorem oidRight_any (a : Option Addr) (n c : Nat) (zs : List Int) (w : World) (hn : zs.length = n) (hi : IIn w w.heap.size a zs) (hl : n ≤ 4194304000) :
    Calls Try.prog 21 #[.slice a n c] w (Tells (oidR zs) w) := by
  obtain ⟨r, hr⟩ : ∃ r, r = oidR zs := ⟨_, rfl⟩
  rw [← hr]
  have Hr := Lib.hid hr
  have Hn := Lib.hid hn
  clear hr
  by_cases h2 : n < 2
  · obtain rfl : r = false := by rw [Hr.out]; simp [oidR, hn]; omega
    clear hi hn
    go_enter Try.func21, Try.ntmps21
    go_wp2_with fail
    go_ret
    exact ⟨rfl, rfl⟩
  · obtain ⟨b, o, rfl, _, hc⟩ := hi (by omega)
    have c0 := hc 0 (by omega)
    have c1 := hc 1 (by omega)
    rw [Nat.add_zero] at c0
    have HC := Lib.hid hc
    have HR2 := Lib.hid (show oidR zs = (decide (0 ≤ zs.getD 0 0) && decide (zs.getD 0 0 ≤ 2) && !(decide (zs.getD 0 0 < 2) && decide (40 ≤ zs.getD 1 0)) && !(decide (zs.getD 0 0 = 2) && decide (2147483567 < zs.getD 1 0)) && (zs.drop 1).all arcOk) by
      unfold oidR
      rw [show decide (2 ≤ zs.length) = true by rw [decide_eq_true_eq]; omega]
      simp)
    obtain ⟨z0, hz0⟩ : ∃ z, z = zs.getD 0 0 := ⟨_, rfl⟩
    obtain ⟨z1, hz1⟩ : ∃ z, z = zs.getD 1 0 := ⟨_, rfl⟩
    rw [← hz0] at c0
    rw [← hz1] at c1
    rw [← hz0, ← hz1] at HR2
    have h0n : (0 : Int) < (n : Int) := by omega
    have h0n' : 0 < n := by omega
    have h1n : (1 : Int) < (n : Int) := by omega
    have h1n' : 1 < n := by omega
    clear hc hn hz0 hz1
    by_cases g0 : z0 < 0
    · obtain rfl : r = false := by rw [Hr.out, HR2.out, show decide (0 ≤ z0) = false by rw [decide_eq_false_iff_not]; omega]; simp
      clear HR2
      go_enter Try.func21, Try.ntmps21
      go_wp2_with fail
      go_ret
      exact ⟨rfl, rfl⟩
    · by_cases g1 : 2 < z0
      · obtain rfl : r = false := by rw [Hr.out, HR2.out, show decide (z0 ≤ 2) = false by rw [decide_eq_false_iff_not]; omega]; simp
        clear HR2
        have g0' : decide (z0 < 0) = false := by rw [decide_eq_false_iff_not]; omega
        go_enter Try.func21, Try.ntmps21
        go_wp2_with fail
        go_ret
        exact ⟨rfl, rfl⟩
      · have g0' : decide (z0 < 0) = false := by rw [decide_eq_false_iff_not]; omega
        have g1' : decide (2 < z0) = false := by rw [decide_eq_false_iff_not]; omega
        by_cases g2 : z0 < 2 ∧ 40 ≤ z1
        · obtain ⟨g2, g3⟩ := g2
          obtain rfl : r = false := by rw [Hr.out, HR2.out, show decide (z0 < 2) = true by rw [decide_eq_true_eq]; omega, show decide (40 ≤ z1) = true by rw [decide_eq_true_eq]; omega]; simp
          have g2' : decide (z0 < 2) = true := by rw [decide_eq_true_eq]; omega
          have g3' : decide (40 ≤ z1) = true := by rw [decide_eq_true_eq]; omega
          clear HR2
          go_enter Try.func21, Try.ntmps21
          go_wp2_with fail
          go_ret
          exact ⟨rfl, rfl⟩
        · by_cases g4 : z0 = 2 ∧ 2147483567 < z1
          · obtain ⟨rfl, g5⟩ := g4
            obtain rfl : r = false := by rw [Hr.out, HR2.out, show decide (2147483567 < z1) = true by rw [decide_eq_true_eq]; omega]; simp
            have g5' : decide (2147483567 < z1) = true := by rw [decide_eq_true_eq]; omega
            clear HR2 g0 g1 g2 g0' g1'
            go_enter Try.func21, Try.ntmps21
            go_wp2_with fail
            go_ret
            exact ⟨rfl, rfl⟩
          · have HA : Hid (oidR zs = (zs.drop 1).all arcOk) := by
              refine Lib.hid ?_
              have e1 : (decide (z0 < 2) && decide (40 ≤ z1)) = false := by rw [Bool.and_eq_false_iff, decide_eq_false_iff_not, decide_eq_false_iff_not]; omega
              have e2 : (decide (z0 = 2) && decide (2147483567 < z1)) = false := by rw [Bool.and_eq_false_iff, decide_eq_false_iff_not, decide_eq_false_iff_not]; omega
              rw [HR2.out, e1, e2, show decide (0 ≤ z0) = true by rw [decide_eq_true_eq]; omega, show decide (z0 ≤ 2) = true by rw [decide_eq_true_eq]; omega]
              simp
            have hcase : (z0 < 2 ∧ decide (z0 < 2) = true ∧ decide (40 ≤ z1) = false ∧ (z0 == 2) = false) ∨ (z0 = 2 ∧ decide (2147483567 < z1) = false) := by
              rcases Int.lt_or_le z0 2 with h | h
              · left; refine ⟨h, by simpa using h, ?_, by simp; omega⟩; rw [decide_eq_false_iff_not]; omega
              · right; refine ⟨by omega, ?_⟩; rw [decide_eq_false_iff_not]; omega
            clear HR2 g0 g1 g2 g4
            rcases hcase with ⟨_, b1, b2, b3⟩ | ⟨rfl, b4⟩
            all_goals (
              go_enter Try.func21, Try.ntmps21
              go_wp2_with fail
              clear c0 c1
              go_loop [3] (fun i => ∃ k : Nat, k + 1 ≤ n ∧ i = .int .i64 ((k : Int) + 1) ∧ Hid (((zs.drop 1).take k).all arcOk = true)) (fun i => n - (intOf i).toNat)
              case atStart => exact ⟨0, by omega, rfl, Lib.hid rfl⟩
              case round =>
                obtain ⟨k, hk, rfl, hall⟩ := hrel
                by_cases hlt : k + 1 < n
                · have c2 := HC.out (k + 1) (by rw [Hn.out]; exact hlt)
                  obtain ⟨z, hz⟩ : ∃ z, z = zs.getD (k + 1) 0 := ⟨_, rfl⟩
                  rw [← hz] at c2
                  have Hz := Lib.hid hz
                  have hlt' : (k : Int) + 1 < (n : Int) := by omega
                  have ht : ((k : Int) + 1).toNat = k + 1 := by omega
                  clear hz
                  by_cases hneg : z < 0
                  · obtain rfl : r = false := by
                      rw [Hr.out, HA.out]
                      exact arc_not (by rw [Hn.out]; exact hlt) (by rw [← Hz.out, arcOk, show decide (0 ≤ z) = false by rw [decide_eq_false_iff_not]; omega]; rfl)
                    go_wp2_with fail
                    go_ret
                    exact ⟨rfl, rfl⟩
                  · have hneg' : decide (z < 0) = false := by rw [decide_eq_false_iff_not]; omega
                    by_cases hbig : 2147483647 < z
                    · obtain rfl : r = false := by
                        rw [Hr.out, HA.out]
                        exact arc_not (by rw [Hn.out]; exact hlt) (by rw [← Hz.out, arcOk, show decide (z ≤ 2147483647) = false by rw [decide_eq_false_iff_not]; omega]; simp)
                      have hbig' : decide (2147483647 < z) = true := by rw [decide_eq_true_eq]; omega
                      clear hbig
                      go_wp2_with fail
                      go_ret
                      exact ⟨rfl, rfl⟩
                    · have hbig' : decide (2147483647 < z) = false := by rw [decide_eq_false_iff_not]; omega
                      have hok : Hid (arcOk z = true) := Lib.hid (by rw [arcOk, show decide (0 ≤ z) = true by rw [decide_eq_true_eq]; omega, show decide (z ≤ 2147483647) = true by rw [decide_eq_true_eq]; omega]; rfl)
                      clear hbig hneg
                      go_wp2_with fail
                      go_round
                      case rel => exact ⟨k + 1, by omega, by first | rfl | (congr 1; omega) | (simp; done) | (simp; omega), Lib.hid (arc_take hall.out (by rw [Hn.out]; exact hlt) (by rw [← Hz.out]; exact hok.out))⟩
                      case measure => first | (simp [intOf]; done) | (simp [intOf]; omega)
                · obtain rfl : r = true := by
                    rw [Hr.out, HA.out]
                    have := hall.out
                    rwa [List.take_of_length_le (by rw [List.length_drop, Hn.out]; omega)] at this
                  have hlt' : ¬ (k : Int) + 1 < (n : Int) := by omega
                  go_wp2_with fail
                  go_ret
                  exact ⟨rfl, rfl⟩)

set_option maxRecDepth 100000 in
set_option maxHeartbeats 800000 in
theorem sameInts_yes (a b : Option Addr) (n c d : Nat) (zs : List Int) (w : World) (hn : zs.length = n) (ha : IIn w w.heap.size a zs) (hb : IIn w w.heap.size b zs) (hl : n ≤ 4194304000) :
    Calls Try.prog 24 #[.slice a n c, .slice b n d] w (fun e w' => e = .returned (.bool true) ∧ ∃ k, w' = w.drewN k) := by
  have Hn := Lib.hid hn
  have Ha := Lib.hid ha
  have Hb := Lib.hid hb
  clear hn ha hb
  obtain ⟨w0, hw0⟩ : ∃ w0, w0 = w := ⟨_, rfl⟩
  have Hw0 := Lib.hid hw0
  clear hw0
  go_enter Try.func24, Try.ntmps24
  go_wp2_with fail
  go_loopw [5] (fun i wr => ∃ k q : Nat, k ≤ n ∧ i = .int .i64 k ∧ wr = w0.drewN q) (fun i _ => n - (intOf i).toNat)
  case atStart => exact ⟨0, 0, by omega, rfl, Hw0.out.symm⟩
  case round =>
    obtain ⟨k, q, hk, rfl, rfl⟩ := hrel
    by_cases hlt : k < n
    · obtain ⟨b1, o1, rfl, _, x1⟩ := Ha.out.at_ (i := k) (by rw [Hn.out]; exact hlt)
      obtain ⟨b2, o2, rfl, _, x2⟩ := Hb.out.at_ (i := k) (by rw [Hn.out]; exact hlt)
      rw [← Hw0.out] at x1 x2
      generalize zs.getD k 0 = z at *
      have i1 : (k : Int) < (n : Int) := by omega
      have hzz : (z != z) = false := by simp
      go_wp2_with fail
      go_quiet (fail)
      go_wp2_with fail
      go_roundw
      case rel => exact ⟨k + 1, q + nq, by omega, by go_num, by first | rfl | rw [World.drewN_drewN]⟩
      case measure => first | (simp [intOf]; done) | (simp [intOf]; omega)
    · go_wp2_with fail
      go_ret
      exact ⟨rfl, q, by rw [Hw0.out]⟩
end Go.Proofs.Ytdnepnnkpaoaaaa
