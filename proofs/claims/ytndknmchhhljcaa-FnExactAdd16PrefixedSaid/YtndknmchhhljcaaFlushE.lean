/- The contract of (*Builder).flushChild where the length does not fit its prefix: the builder keeps an error. -/
import Derived.Test.YtndknmchhhljcaaLenAdd
namespace Go.Proofs.Ytndknmchhhljcaa
open Go.RowKit
set_option linter.unusedVariables false

/-- The builder holds an error. -/
def Bad (w : World) (g : Nat) : Prop := ∃ (t : TypeId) (u v1 v2 v4 v5 v6 v7 : Value), Blk w g 74 #[.iface t u, v1, v2, .pointer none, v4, v5, v6, v7]
def FlErr (g : Nat) (S : List Nat) (w : World) (e : Ending) (w' : World) : Prop := e = .returned (.tuple #[]) ∧ Bad w' g ∧ Fr S w w'

theorem new_err (s) (w : World) : Calls Try.prog 134 #[.string s] w fun e w' => ∃ u, e = .returned (.iface 141 u) ∧ Fr [] w w' := by
  go_enter Try.func134, Try.ntmps134
  go_wp2
  go_ret
  exact ⟨_, rfl, (Fr.refl [] w).alloc _⟩

set_option maxRecDepth 100000 in
set_option maxHeartbeats 1600000 in
theorem flush_err (base g gc rc k L o : Nat) (pre body : List Int) (off pl : Int) (pa : Bool) (ic icc vp : Value) (w : World)
    (hg : Blk w g 74 (pCs vp gc off pl pa ic)) (hc : Bld w base gc (pre ++ (List.replicate k 0 ++ body)) o k false icc (some rc)) (hgc : g ≠ gc)
    (hpre : pre.length = o) (hbody : body.length = L) (hk0 : 0 < k) (hk : k ≤ 4) (hl : o + (k + L) ≤ 4194304000) (hL : L / 256 ^ k ≠ 0) :
    Calls Try.prog 147 #[.pointer (some ⟨g, 0, none⟩)] w (FlErr g [g, gc, rc] w) := by
  obtain ⟨v, hc, hown, hrc⟩ := hc
  obtain ⟨c, rfl, hc1, hc2⟩ := hown.row hrc
  obtain ⟨N, hN⟩ : ∃ N, N = o + (k + L) := ⟨_, rfl⟩
  have hlen : (pre ++ (List.replicate k 0 ++ body)).length = N := by simp; omega
  rw [hlen] at hc hown hc1
  have hgr : g ≠ rc := fun e => by
    have := hown.ne_blk hg (by decide)
    simp [Value.ownBlock, e] at this
  have hcr : gc ≠ rc := fun e => by
    have := hown.ne_blk hc (by decide)
    simp [Value.ownBlock, e] at this
  have a3 : w.cell? ⟨g, 3, none⟩ = some (.pointer (some ⟨gc, 0, none⟩)) := hg.cell 3
  have af3 := hg.frozen 3
  have b0 : w.cell? ⟨gc, 0, none⟩ = some .nilIface := hc.cell 0
  have b1 : w.cell? ⟨gc, 1, none⟩ = some (.slice (some ⟨rc, 0, none⟩) N c) := hc.cell 1
  have b3 : w.cell? ⟨gc, 3, none⟩ = some (.pointer none) := hc.cell 3
  have b4 : w.cell? ⟨gc, 4, none⟩ = some (.int .i64 o) := hc.cell 4
  have b5 : w.cell? ⟨gc, 5, none⟩ = some (.int .i64 k) := hc.cell 5
  have b6 : w.cell? ⟨gc, 6, none⟩ = some (.bool false) := hc.cell 6
  have e1 : IntKind.i64.wrap ((N : Int) - (k : Int)) = (N : Int) - (k : Int) := IntWalk.i64_in _ (by omega)
  have e2 : IntKind.i64.wrap ((N : Int) - (k : Int) - (o : Int)) = (L : Int) := by rw [IntWalk.i64_in _ (by omega)]; omega
  have Hg := Lib.hid hg
  have Hc := Lib.hid hc
  have Ho := Lib.hid hown
  have HN := Lib.hid hN
  have Hp := Lib.hid hpre
  have Hb := Lib.hid hbody
  have HL := Lib.hid hL
  have FN := Lib.hid (flush_none gc w b3)
  clear hg hc hown hN hpre hbody hL hlen hrc b3
  go_enter Try.func147, Try.ntmps147
  go_wp2_with fail
  refine FN.out.mono ?_
  rintro e w' ⟨rfl, rfl⟩
  go_wp2_with fail
  go_quiet (fail)
  go_wp2_with fail
  have G1 : Blk ((w.setCell ⟨g, 3, none⟩ (.pointer none)).drewN nq) g 74 (bCs vp off pl pa ic) := (Hg.out.set_ 3 _).drewN nq
  have D1 : Blk ((w.setCell ⟨g, 3, none⟩ (.pointer none)).drewN nq) gc 74 (bCs (.slice (some ⟨rc, 0, none⟩) N c) o k false icc) := (Hc.out.far (p := ⟨g, 3, none⟩) (fun e => hgc e.symm) _).drewN nq
  have F1 : Fr [g] w ((w.setCell ⟨g, 3, none⟩ (.pointer none)).drewN nq) := ((Fr.refl [g] w).set_ (.inl (by simp)) _).drewN nq
  have O1 : OwnB ((w.setCell ⟨g, 3, none⟩ (.pointer none)).drewN nq) base 5 (.slice (some ⟨rc, 0, none⟩) N c) (Mid pre body (List.replicate k 0) k 0 L) := by
    rw [mid_zero pre body L (by simp)]
    exact Ho.out.fr F1 (by simp [Value.ownBlock]; exact fun e => hgr e.symm)
  generalize (w.setCell ⟨g, 3, none⟩ (.pointer none)).drewN nq = w1 at *
  have F1' := Lib.hid (F1.mono (S' := [g, gc, rc]) (by simp))
  have G1' := Lib.hid G1
  have D1' := Lib.hid D1
  have O1' := Lib.hid O1
  have HZ := Lib.hid (show (List.replicate k (0 : Int)).length = k by simp)
  generalize List.replicate k (0 : Int) = Z at *
  have hLq : L ≤ 4194304000 := by omega
  obtain ⟨S0, hS0⟩ : ∃ S0, S0 = [g, gc, rc] := ⟨_, rfl⟩
  have hS0r : rc ∈ S0 ∨ w.heap.size ≤ rc := .inl (by rw [hS0]; simp)
  have HS0g := Lib.hid (show g ∈ S0 by rw [hS0]; simp)
  have HFin := Lib.hid (show ∀ w', Fr S0 w w' → Fr [g, gc, rc] w w' by rw [hS0]; exact fun _ h => h)
  have HRc := Lib.hid (show rc ∈ [g, gc, rc] ∨ w.heap.size ≤ rc from .inl (by simp))
  rw [← hS0] at F1'
  clear hS0
  obtain ⟨Lq, hLq'⟩ : ∃ Lq, Lq = L := ⟨_, rfl⟩
  rw [← hLq'] at HL O1' hLq ⊢
  clear hLq'
  clear G1 D1 F1 O1 e1 e2 a3 af3 b0 b1 b4 b5 b6
  go_loopw [8, 9] (fun l i wr => ∃ j : Nat, j ≤ k ∧ i = .int .i64 ((k : Int) - 1 - j) ∧ l = .int .i64 ((Lq / 256 ^ j : Nat) : Int) ∧ Blk wr g 74 (bCs vp off pl pa ic) ∧ Blk wr gc 74 (bCs (.slice (some ⟨rc, 0, none⟩) N c) o k false icc) ∧
    OwnB wr base 5 (.slice (some ⟨rc, 0, none⟩) N c) (Mid pre body Z k j Lq) ∧ Fr S0 w wr) (fun _ i _ => (intOf i + 1).toNat)
  case atStart => exact ⟨0, Nat.zero_le _, by go_num, by simp, G1'.out, D1'.out, O1'.out, F1'.out⟩
  case round =>
    obtain ⟨j, hj, rfl, rfl, hg, hc, hown, hfr⟩ := hrel
    have hNle : N ≤ 4194304000 := by have := HN.out; omega
    have b1 : wr.cell? ⟨gc, 1, none⟩ = some (.slice (some ⟨rc, 0, none⟩) N c) := hc.cell 1
    have b4 : wr.cell? ⟨gc, 4, none⟩ = some (.int .i64 o) := hc.cell 4
    have Hg1 := Lib.hid hg
    have Hc1 := Lib.hid hc
    have Ho1 := Lib.hid hown
    have Hf1 := Lib.hid hfr
    by_cases hlt : j < k
    · obtain ⟨i, hi⟩ : ∃ i, i = k - 1 - j := ⟨_, rfl⟩
      have hi' : (k : Int) - 1 - j = (i : Int) := by omega
      have hiN : o + i < N := by have := HN.out; omega
      obtain ⟨x0, x1⟩ := hown.at_ (by rw [mid_len pre body Lq HZ.out hj, Hp.out, Hb.out]; have := HN.out; omega) hiN
      have M := Lib.hid (mid_set pre body Lq HZ.out hlt)
      rw [Hp.out, ← hi] at M
      have Hi := Lib.hid hi
      have Q := Lib.hid (show Lq / 256 ^ (j + 1) = Lq / 256 ^ j / 256 by rw [Nat.pow_succ, Nat.div_div_eq_div_mul])
      have hq : Lq / 256 ^ j ≤ 4194304000 := Nat.le_trans (Nat.div_le_self _ _) hLq
      have i1 : (o : Int) + (i : Int) < (N : Int) := by omega
      have i2 : IntKind.i64.wrap ((o : Int) + (i : Int)) = (o : Int) + (i : Int) := IntWalk.i64_in _ (by omega)
      have i3 : (0 : Int) ≤ (o : Int) + (i : Int) := by omega
      have i4 : ((o : Int) + (i : Int)).toNat = o + i := by omega
      rw [hi']
      generalize Lq / 256 ^ j = q at *
      generalize (Mid pre body Z k j Lq).getD (o + i) 0 = y at *
      clear hi hi' hg hc hown hfr
      go_wp2_with fail
      refine region_tail 13 (by kernel_rfl) (by kernel_rfl) ?_
      simp only [List.take_succ_cons, List.take_zero, List.drop_succ_cons, List.drop_zero]
      repeat still_step
      refine wpStill_nil ?_
      go_wp2_with fail
      go_roundw
      case rel =>
        have hN := HN.out
        have hi := Hi.out
        refine ⟨j + 1, by omega, by congr 1; omega, by rw [Q.out]; rfl, (Hg1.out.far (p := ⟨rc, o + i, none⟩) hgr _).drew, (Hc1.out.far (p := ⟨rc, o + i, none⟩) hcr _).drew, ?_, (Hf1.out.set_ (p := ⟨rc, o + i, none⟩) hS0r _).drew⟩
        rw [← M.out]
        exact Ho1.out.stored (by rw [mid_len pre body Lq HZ.out hj, Hp.out, Hb.out]; omega) _ _
      case measure => first | (simp [intOf]; done) | (simp [intOf]; omega)
    · have hjk : j = k := by omega
      subst hjk
      obtain ⟨R, hR⟩ : ∃ R, R = Lq / 256 ^ j := ⟨_, rfl⟩
      have hne : (((R : Nat) : Int) != 0) = true := by have := HL.out; rw [← hR] at this; simp; omega
      rw [← hR]
      clear hg hc hown hfr hR
      have hi' : ¬ (0 : Int) ≤ (j : Int) - 1 - j := by omega
      have a0 : wr.cell? ⟨g, 0, none⟩ = some .nilIface := Hg1.out.cell 0
      have af0 := Hg1.out.frozen 0
      have a2 : wr.cell? ⟨g, 2, none⟩ = some (.bool false) := Hg1.out.cell 2
      have a1 : wr.cell? ⟨g, 1, none⟩ = some vp := Hg1.out.cell 1
      have af1 := Hg1.out.frozen 1
      go_wp2_with fail
      refine (new_err _ wr).mono ?_
      rintro e w9 ⟨u, rfl, f9⟩
      have G9 := f9.blk Hg1.out (by simp)
      have d0 : w9.cell? ⟨g, 0, none⟩ = some .nilIface := G9.cell 0
      have df0 := G9.frozen 0
      have HG9 := Lib.hid G9
      have HF9 := Lib.hid f9
      clear G9 f9
      go_wp2_with fail
      go_end0
      refine ⟨rfl, ⟨_, _, _, _, _, _, _, _, HG9.out.set_ 0 _⟩, HFin.out _ ((Hf1.out.trans HF9.out (by simp)).set_ (p := ⟨g, 0, none⟩) (.inl HS0g.out) _)⟩
end Go.Proofs.Ytndknmchhhljcaa
