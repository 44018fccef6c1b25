/- Ints in memory; the contract of isValidOID. -/
import Derived.Test.YtdnepnnkpaoaaaaGBld
namespace Go.Proofs.Ytdnepnnkpaoaaaa
open Go.RowKit
set_option linter.unusedVariables false

/-- The address 'a' leads to the ints zs, below block B. Of no int: whatever the address. -/
def IIn (w : World) (B : Nat) (a : Option Addr) (zs : List Int) : Prop :=
  0 < zs.length → ∃ b o, a = some ⟨b, o, none⟩ ∧ b < B ∧ ∀ i, i < zs.length → w.cell? ⟨b, o + i, none⟩ = some (.int .i64 (zs.getD i 0))
section
variable {w w' : World} {B B' : Nat} {a : Option Addr} {zs : List Int}
theorem IIn.nil (w : World) (B : Nat) (a : Option Addr) : IIn w B a [] := fun h => absurd h (by simp)
theorem IIn.keep (h : IIn w B a zs) (hk : ∀ p : Addr, p.block < B → w'.cell? p = w.cell? p) : IIn w' B a zs := fun hn => by
  obtain ⟨b, o, e, hb, hc⟩ := h hn
  exact ⟨b, o, e, hb, fun i hi => (hk _ hb).trans (hc i hi)⟩
theorem IIn.more (h : IIn w B a zs) (hB : B ≤ B') : IIn w B' a zs := fun hn => by
  obtain ⟨b, o, e, hb, hc⟩ := h hn
  exact ⟨b, o, e, by omega, hc⟩
theorem IIn.below (h : IIn w B a zs) (hb : Below B w w') : IIn w' B a zs := h.keep fun _ hp => hb.cell hp
theorem IIn.lt (h : IIn w B a zs) : IIn w w.heap.size a zs := fun hn => by
  obtain ⟨b, o, e, hb, hc⟩ := h hn
  exact ⟨b, o, e, World.block_lt_of_cell? w _ (hc 0 hn), hc⟩
theorem IIn.at_ (h : IIn w B a zs) {i : Nat} (hi : i < zs.length) : ∃ b o, a = some ⟨b, o, none⟩ ∧ b < B ∧ w.cell? ⟨b, o + i, none⟩ = some (.int .i64 (zs.getD i 0)) := by
  obtain ⟨b, o, e, hb, hc⟩ := h (by omega)
  exact ⟨b, o, e, hb, hc i hi⟩
theorem IIn.cut (h : IIn w B a zs) {c k : Nat} (hc : zs.length ≤ c) : IIn w B (cutA a c k) (zs.drop k) := fun hn => by
  have hn' : k < zs.length := by simp at hn; omega
  obtain ⟨b, o, e, hb, hcell⟩ := h (by omega)
  subst e
  unfold cutA
  rw [if_neg (by omega)]
  refine ⟨b, o + k, by simp [add_plain'], hb, fun i hi => ?_⟩
  have hi' : k + i < zs.length := by simp at hi; omega
  rw [Nat.add_assoc, hcell _ hi']
  simp [List.getD_eq_getElem?_getD, List.getElem?_drop]
end
theorem Fr.iin {S : List Nat} {w w' : World} {B : Nat} {a : Option Addr} {xs : List Int} (h : Fr S w w') (k : IIn w B a xs) (hs : ∀ i ∈ S, B ≤ i) : IIn w' B a xs := fun hn => by
  obtain ⟨b, o, e, hb, hc⟩ := k hn
  refine ⟨b, o, e, hb, fun i hi => ?_⟩
  have hlt := World.block_lt_of_cell? w _ (hc i hi)
  exact (World.cell?_of_block (w := w) (h.block b hlt (fun e => by have := hs b e; omega))).trans (hc i hi)

/-- What isValidOID asks of arcs. -/
def oidHead (zs : List Int) : Bool := decide (zs.length < 2) || decide (2 < zs.getD 0 0) || (decide (zs.getD 0 0 ≤ 1) && decide (40 ≤ zs.getD 1 0))
def oidOk (zs : List Int) : Bool := !oidHead zs && zs.all (fun z => decide (0 ≤ z))
theorem all_take {zs : List Int} {k : Nat} (h : (zs.take k).all (fun z => decide (0 ≤ z)) = true) (hk : k < zs.length) (h0 : 0 ≤ zs.getD k 0) : (zs.take (k + 1)).all (fun z => decide (0 ≤ z)) = true := by
  rw [List.take_succ_eq_append_getElem hk, List.all_append, h]
  rw [List.getD_eq_getElem?_getD, List.getElem?_eq_getElem hk] at h0
  simpa using h0
theorem all_not {zs : List Int} {k : Nat} (hk : k < zs.length) (h0 : zs.getD k 0 < 0) : zs.all (fun z => decide (0 ≤ z)) = false := by
  rw [List.getD_eq_getElem?_getD, List.getElem?_eq_getElem hk] at h0
  simp only [Option.getD_some] at h0
  rw [List.all_eq_false]
  exact ⟨zs[k], List.getElem_mem hk, by simpa using h0⟩
/-- A truth is handed back, and nothing turns. -/
def Tells (b : Bool) (w : World) (e : Ending) (w' : World) : Prop := e = .returned (.bool b) ∧ w = w'

set_option maxRecDepth 100000 in
set_option maxHeartbeats 800000 in
theorem valid_any (a : Option Addr) (n c : Nat) (zs : List Int) (w : World) (hn : zs.length = n) (hi : IIn w w.heap.size a zs) (hl : n ≤ 4194304000) :
    Calls Try.prog 53 #[.slice a n c] w (Tells (oidOk zs) w) := by
  obtain ⟨r, hr⟩ : ∃ r, r = oidOk zs := ⟨_, rfl⟩
  rw [← hr]
  have Hr := Lib.hid hr
  have Hn := Lib.hid hn
  clear hr
  by_cases h2 : n < 2
  · obtain rfl : r = false := by rw [Hr.out]; simp [oidOk, oidHead, hn, h2]
    clear hi hn
    go_enter Try.func53, Try.ntmps53
    go_wp2_with fail
    go_ret
    exact ⟨rfl, rfl⟩
  · obtain ⟨b, o, rfl, _, hc⟩ := hi (by omega)
    have c0 := hc 0 (by omega)
    have c1 := hc 1 (by omega)
    rw [Nat.add_zero] at c0
    have HC := Lib.hid hc
    obtain ⟨z0, hz0⟩ : ∃ z, z = zs.getD 0 0 := ⟨_, rfl⟩
    obtain ⟨z1, hz1⟩ : ∃ z, z = zs.getD 1 0 := ⟨_, rfl⟩
    rw [← hz0] at c0
    rw [← hz1] at c1
    have h0n : (0 : Int) < (n : Int) := by omega
    have h1n : (1 : Int) < (n : Int) := by omega
    have HZ : Hid (oidHead zs = (decide (2 < z0) || (decide (z0 ≤ 1) && decide (40 ≤ z1)))) := by
      refine Lib.hid ?_
      unfold oidHead
      rw [hn, ← hz0, ← hz1]
      simp [h2]
    clear hc hn hz0 hz1
    by_cases g0 : 2 < z0
    · have g0' : decide (2 < z0) = true := by simpa using g0
      obtain rfl : r = false := by rw [Hr.out, oidOk, HZ.out, g0']; rfl
      go_enter Try.func53, Try.ntmps53
      go_wp2_with fail
      go_ret
      exact ⟨rfl, rfl⟩
    · have g0' : decide (2 < z0) = false := by simpa using g0
      by_cases g1 : z0 ≤ 1 ∧ 40 ≤ z1
      · obtain ⟨g1, g2⟩ := g1
        have g1' : decide (z0 ≤ 1) = true := by simpa using g1
        have g2' : decide (40 ≤ z1) = true := by simpa using g2
        obtain rfl : r = false := by rw [Hr.out, oidOk, HZ.out, g1', g2']; simp
        go_enter Try.func53, Try.ntmps53
        go_wp2_with fail
        go_ret
        exact ⟨rfl, rfl⟩
      · have HA : Hid (oidOk zs = zs.all (fun z => decide (0 ≤ z))) := by
          refine Lib.hid ?_
          rw [oidOk, HZ.out]
          have : (decide (z0 ≤ 1) && decide (40 ≤ z1)) = false := by
            rw [Bool.and_eq_false_iff, decide_eq_false_iff_not, decide_eq_false_iff_not]
            omega
          rw [this, g0']
          simp
        have g1c : ¬ z0 ≤ 1 ∨ (z0 ≤ 1 ∧ ¬ 40 ≤ z1) := by omega
        clear g1
        rcases g1c with g1 | ⟨g1, g2⟩
        all_goals (
          go_enter Try.func53, Try.ntmps53
          go_wp2_with fail
          clear c0 c1
          go_loop [26] (fun i => ∃ k : Nat, k ≤ n ∧ i = .int .i64 k ∧ Hid ((zs.take k).all (fun z => decide (0 ≤ z)) = true)) (fun i => n - (intOf i).toNat)
          case atStart => exact ⟨0, Nat.zero_le _, rfl, Lib.hid rfl⟩
          case round =>
            obtain ⟨k, hk, rfl, hall⟩ := hrel
            by_cases hlt : k < n
            · have c2 := HC.out k (by rw [Hn.out]; exact hlt)
              obtain ⟨z, hz⟩ : ∃ z, z = zs.getD k 0 := ⟨_, rfl⟩
              rw [← hz] at c2
              have Hz := Lib.hid hz
              clear hz
              by_cases hneg : z < 0
              · obtain rfl : r = false := by rw [Hr.out, HA.out]; exact all_not (by rw [Hn.out]; exact hlt) (by rw [← Hz.out]; exact hneg)
                go_wp2_with fail
                go_ret
                exact ⟨rfl, rfl⟩
              · go_wp2_with fail
                go_round
                case rel => exact ⟨k + 1, by omega, by go_num, Lib.hid (all_take hall.out (by rw [Hn.out]; exact hlt) (by rw [← Hz.out]; omega))⟩
                case measure => simp [intOf]; omega
            · obtain rfl : r = true := by
                rw [Hr.out, HA.out]
                have := hall.out
                rwa [List.take_of_length_le (by rw [Hn.out]; omega)] at this
              go_wp2_with fail
              go_ret
              exact ⟨rfl, rfl⟩)
end Go.Proofs.Ytdnepnnkpaoaaaa
