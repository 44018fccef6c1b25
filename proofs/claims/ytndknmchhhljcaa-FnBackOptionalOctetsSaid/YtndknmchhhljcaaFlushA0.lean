/- The contract of (*Builder).flushChild for a child of ASN.1, by the length of its length. (Printed by gen_flush.py.) -/
import Derived.Test.YtndknmchhhljcaaFlush
namespace Go.Proofs.Ytndknmchhhljcaa
open Go.RowKit
set_option linter.unusedVariables false

set_option maxRecDepth 100000 in
set_option maxHeartbeats 3200000 in
theorem flush_a0 (base g gc rc L o : Nat) (pre body : List Int) (off pl : Int) (pa : Bool) (ic icc vp : Value) (w : World)
    (hg : Blk w g 74 (pCs vp gc off pl pa ic)) (hc : Bld w base gc (pre ++ (0 :: body)) o 1 true icc (some rc)) (hgc : g ≠ gc)
    (hpre : pre.length = o) (hbody : body.length = L) (hl : o + (1 + L) ≤ 4194303000) (hlo : 0 ≤ L) (hhi : L ≤ 127) (hbw : base ≤ w.heap.size) :
    Calls Try.prog 147 #[.pointer (some ⟨g, 0, none⟩)] w (FlPost base g (pre ++ ((L : Int) :: body)) off pl pa ic [g, gc, rc] w) := by
  obtain ⟨v, hc, hown, hrc⟩ := hc
  obtain ⟨c, rfl, hc1, hc2⟩ := hown.row hrc
  obtain ⟨N, hN⟩ : ∃ N, N = o + (1 + L) := ⟨_, rfl⟩
  have hlen : (pre ++ (0 :: body)).length = N := by simp; omega
  rw [hlen] at hc hown hc1
  have hgr : g ≠ rc := fun e => by
    have := hown.ne_blk hg (by decide)
    simp [Value.ownBlock, e] at this
  have hcr : gc ≠ rc := fun e => by
    have := hown.ne_blk hc (by decide)
    simp [Value.ownBlock, e] at this
  have a3 : w.cell? ⟨g, 3, none⟩ = some (.pointer (some ⟨gc, 0, none⟩)) := hg.cell 3
  have af3 := hg.frozen 3
  have b0 : w.cell? ⟨gc, 0, none⟩ = some .nilIface := hc.cell 0
  have b1 : w.cell? ⟨gc, 1, none⟩ = some (.slice (some ⟨rc, 0, none⟩) N c) := hc.cell 1
  have b3 : w.cell? ⟨gc, 3, none⟩ = some (.pointer none) := hc.cell 3
  have b4 : w.cell? ⟨gc, 4, none⟩ = some (.int .i64 o) := hc.cell 4
  have b5 : w.cell? ⟨gc, 5, none⟩ = some (.int .i64 1) := hc.cell 5
  have b6 : w.cell? ⟨gc, 6, none⟩ = some (.bool true) := hc.cell 6
  have e1 : IntKind.i64.wrap ((N : Int) - 1) = (N : Int) - 1 := IntWalk.i64_in _ (by omega)
  have e2 : IntKind.i64.wrap ((N : Int) - 1 - (o : Int)) = (L : Int) := by rw [IntWalk.i64_in _ (by omega)]; omega
  have Hg := Lib.hid hg
  have Hc := Lib.hid hc
  have Ho := Lib.hid hown
  have HN := Lib.hid hN
  have Hp := Lib.hid hpre
  have Hb := Lib.hid hbody
  have FN := Lib.hid (flush_none gc w b3)
  have HX := Lib.hid (show (pre ++ (0 :: body)).set o (L : Int) = pre ++ ((L : Int) :: body) by rw [List.set_append_right _ _ (by omega), hpre, Nat.sub_self, List.set_cons_zero])
  have hoN : o < N := by omega
  have hNle : N ≤ 4194303000 := by omega
  clear hg hc hown hN hpre hbody hlen hrc b3
  obtain ⟨RES, hRES⟩ : ∃ R, R = pre ++ ((L : Int) :: body) := ⟨_, rfl⟩
  rw [← hRES]
  have HE0 := Lib.hid hRES
  clear hRES
  go_enter Try.func147, Try.ntmps147
  go_wp2_with fail
  refine FN.out.mono ?_
  rintro e w' ⟨rfl, rfl⟩
  go_wp2_with fail
  go_quiet (fail)
  go_wp2_with fail
  have G1 : Blk ((w.setCell ⟨g, 3, none⟩ (.pointer none)).drewN nq) g 74 (bCs vp off pl pa ic) := (Hg.out.set_ 3 _).drewN nq
  have D1 : Blk ((w.setCell ⟨g, 3, none⟩ (.pointer none)).drewN nq) gc 74 (bCs (.slice (some ⟨rc, 0, none⟩) N c) o 1 true icc) := (Hc.out.far (p := ⟨g, 3, none⟩) (fun e => hgc e.symm) _).drewN nq
  have F1 : Fr [g] w ((w.setCell ⟨g, 3, none⟩ (.pointer none)).drewN nq) := ((Fr.refl [g] w).set_ (.inl (by simp)) _).drewN nq
  have O1 : OwnB ((w.setCell ⟨g, 3, none⟩ (.pointer none)).drewN nq) base 5 (.slice (some ⟨rc, 0, none⟩) N c) (pre ++ (0 :: body)) := Ho.out.fr F1 (by simp [Value.ownBlock]; exact fun e => hgr e.symm)
  generalize (w.setCell ⟨g, 3, none⟩ (.pointer none)).drewN nq = w1 at *
  have hlen : (pre ++ (0 :: body)).length = N := by have h1 := Hp.out; have h2 := Hb.out; have h3 := HN.out; simp; omega
  obtain ⟨x0, x1⟩ := O1.at_ hlen hoN
  have c1 : w1.cell? ⟨gc, 1, none⟩ = some (.slice (some ⟨rc, 0, none⟩) N c) := D1.cell 1
  have c4 : w1.cell? ⟨gc, 4, none⟩ = some (.int .i64 o) := D1.cell 4
  have O2 := Lib.hid (O1.stored hlen o (L : Int))
  rw [HX.out] at O2
  have G2 := Lib.hid (G1.far (p := ⟨rc, o, none⟩) hgr (.int .u8 (L : Int)))
  have D2 := Lib.hid (D1.far (p := ⟨rc, o, none⟩) hcr (.int .u8 (L : Int)))
  have F2 := Lib.hid ((F1.mono (S' := [g, gc, rc]) (by simp)).set_ (p := ⟨rc, o, none⟩) (.inl (by simp)) (.int .u8 (L : Int)))
  have o1 : (o : Int) < (N : Int) := by omega
  clear a3 af3 b0 b1 b4 b5 b6 e1 e2 G1 D1 F1 O1 hlen
  generalize (pre ++ (0 :: body)).getD o 0 = y at *
  refine region_tail 10 (by kernel_rfl) (by kernel_rfl) ?_
  simp only [List.take_succ_cons, List.take_zero, List.drop_succ_cons, List.drop_zero]
  repeat still_step
  refine wpStill_nil ?_
  have d4 : (w1.setCell ⟨rc, o, none⟩ (.int .u8 (L : Int))).cell? ⟨gc, 4, none⟩ = some (.int .i64 o) := D2.out.cell 4
  have d5 : (w1.setCell ⟨rc, o, none⟩ (.int .u8 (L : Int))).cell? ⟨gc, 5, none⟩ = some (.int .i64 1) := D2.out.cell 5
  have df4 : (w1.setCell ⟨rc, o, none⟩ (.int .u8 (L : Int))).frozen? ⟨gc, 4, none⟩ = false := D2.out.frozen 4
  have df5 : (w1.setCell ⟨rc, o, none⟩ (.int .u8 (L : Int))).frozen? ⟨gc, 5, none⟩ = false := D2.out.frozen 5
  go_wp2_with fail
  have G3 : Blk (((w1.setCell ⟨rc, o, none⟩ (.int .u8 (L : Int))).setCell ⟨gc, 4, none⟩ (.int .i64 ((o : Int) + 1))).setCell ⟨gc, 5, none⟩ (.int .i64 0)).drew g 74 (bCs vp off pl pa ic) := ((G2.out.far (p := ⟨gc, 4, none⟩) hgc _).far (p := ⟨gc, 5, none⟩) hgc _).drew
  have D3 : Blk (((w1.setCell ⟨rc, o, none⟩ (.int .u8 (L : Int))).setCell ⟨gc, 4, none⟩ (.int .i64 ((o : Int) + 1))).setCell ⟨gc, 5, none⟩ (.int .i64 0)).drew gc 74 (bCs (.slice (some ⟨rc, 0, none⟩) N c) ((o : Int) + 1) 0 true icc) := ((D2.out.set_ 4 _).set_ 5 _).drew
  have F3 : Fr [g, gc, rc] w (((w1.setCell ⟨rc, o, none⟩ (.int .u8 (L : Int))).setCell ⟨gc, 4, none⟩ (.int .i64 ((o : Int) + 1))).setCell ⟨gc, 5, none⟩ (.int .i64 0)).drew := ((F2.out.set_ (p := ⟨gc, 4, none⟩) (.inl (by simp)) _).set_ (p := ⟨gc, 5, none⟩) (.inl (by simp)) _).drew
  have O3 : OwnB (((w1.setCell ⟨rc, o, none⟩ (.int .u8 (L : Int))).setCell ⟨gc, 4, none⟩ (.int .i64 ((o : Int) + 1))).setCell ⟨gc, 5, none⟩ (.int .i64 0)).drew base 5 (.slice (some ⟨rc, 0, none⟩) N c) (pre ++ ((L : Int) :: body)) :=
    O2.out.fr (S := [gc]) ((((Fr.refl [gc] _).set_ (p := ⟨gc, 4, none⟩) (.inl (by simp)) _).set_ (p := ⟨gc, 5, none⟩) (.inl (by simp)) _).drew) (by simp [Value.ownBlock]; exact fun e => hcr e.symm)
  generalize (((w1.setCell ⟨rc, o, none⟩ (.int .u8 (L : Int))).setCell ⟨gc, 4, none⟩ (.int .i64 ((o : Int) + 1))).setCell ⟨gc, 5, none⟩ (.int .i64 0)).drew = w2 at *
  obtain ⟨o2, ho2⟩ : ∃ o2 : Nat, o2 = o + 1 := ⟨_, rfl⟩
  rw [show (o : Int) + 1 = (o2 : Int) by omega] at D3
  obtain ⟨pre2, hpre2⟩ : ∃ p2, p2 = pre ++ [(L : Int)] := ⟨_, rfl⟩
  have HE := Lib.hid (show RES = pre2 ++ (bigB 0 ((0 : Nat) : Int) ++ body) by rw [HE0.out, hpre2]; simp [bigB])
  have HZ := Lib.hid (show ([] : List Int).length = 0 from rfl)
  have O3' : OwnB w2 base 5 (.slice (some ⟨rc, 0, none⟩) N c) (Mid pre2 body [] 0 0 0) := by
    rw [mid_zero (Z := []) (k := 0) pre2 body 0 rfl, hpre2]
    simpa using O3
  have Hp2 := Lib.hid (show pre2.length = o2 by rw [hpre2, List.length_append, Hp.out, ho2]; rfl)
  have HN2 := Lib.hid (show N = o2 + (0 + L) by rw [HN.out, ho2]; omega)
  have HL := Lib.hid (show 0 / 256 ^ 0 = 0 from rfl)
  have hk : 0 ≤ 4 := by omega
  generalize ([] : List Int) = Z at *
  obtain ⟨k, hk0⟩ : ∃ k : Nat, k = 0 := ⟨_, rfl⟩
  obtain ⟨Lq, hLq0⟩ : ∃ Lq : Nat, Lq = 0 := ⟨_, rfl⟩
  have hLq : Lq ≤ 4194304000 := by omega
  have D4 : Blk w2 gc 74 (bCs (.slice (some ⟨rc, 0, none⟩) N c) o2 k true icc) := by rw [hk0]; exact D3
  have O4 : OwnB w2 base 5 (.slice (some ⟨rc, 0, none⟩) N c) (Mid pre2 body Z k 0 Lq) := by rw [hk0, hLq0]; exact O3'
  rw [← hk0] at HZ
  have HE' := Lib.hid (show RES = pre2 ++ (bigB k (Lq : Int) ++ body) by rw [hk0, hLq0]; exact HE.out)
  have HN3 := Lib.hid (show N = o2 + (k + L) by rw [hk0]; exact HN2.out)
  have HL' := Lib.hid (show Lq / 256 ^ k = 0 by rw [hk0, hLq0])
  have hsl : Value.int .i64 0 = .int .i64 ((Lq / 256 ^ 0 : Nat) : Int) := by rw [hLq0]; rfl
  have hsi : Value.int .i64 (-1) = .int .i64 ((k : Int) - 1 - ((0 : Nat) : Int)) := by rw [hk0]; rfl
  obtain ⟨S0, hS0⟩ : ∃ S0, S0 = [g, gc, rc] := ⟨_, rfl⟩
  have hS0r : rc ∈ S0 ∨ w.heap.size ≤ rc := .inl (by rw [hS0]; simp)
  have HS0g := Lib.hid (show g ∈ S0 by rw [hS0]; simp)
  have HFin := Lib.hid (show ∀ w', Fr S0 w w' → Fr [g, gc, rc] w w' by rw [hS0]; exact fun _ h => h)
  have HRc := Lib.hid (show rc ∈ [g, gc, rc] ∨ w.heap.size ≤ rc from .inl (by simp))
  rw [← hS0] at F3
  have G1' := Lib.hid G3
  have D1' := Lib.hid D4
  have O1' := Lib.hid O4
  have F1' := Lib.hid F3
  have HSL := Lib.hid hsl
  have HSI := Lib.hid hsi
  clear hS0 G3 D3 D4 O3 O3' O4 F3 HE HN2 HL HE0 HN Hp hk0 hLq0 hpre2 ho2 d4 d5 df4 df5 x0 x1 c1 c4 o1 G2 D2 F2 O2 HX hsl hsi hlo hhi
  go_loopw [8, 9] (fun l i wr => ∃ j : Nat, j ≤ k ∧ i = .int .i64 ((k : Int) - 1 - j) ∧ l = .int .i64 ((Lq / 256 ^ j : Nat) : Int) ∧ Blk wr g 74 (bCs vp off pl pa ic) ∧ Blk wr gc 74 (bCs (.slice (some ⟨rc, 0, none⟩) N c) o2 k true icc) ∧
    OwnB wr base 5 (.slice (some ⟨rc, 0, none⟩) N c) (Mid pre2 body Z k j Lq) ∧ Fr S0 w wr) (fun _ i _ => (intOf i + 1).toNat)
  case atStart => exact ⟨0, Nat.zero_le _, HSI.out, HSL.out, G1'.out, D1'.out, O1'.out, F1'.out⟩
  case round =>
    obtain ⟨j, hj, rfl, rfl, hg, hc, hown, hfr⟩ := hrel
    have hNle : N ≤ 4194304000 := by have := HN3.out; omega
    have b1 : wr.cell? ⟨gc, 1, none⟩ = some (.slice (some ⟨rc, 0, none⟩) N c) := hc.cell 1
    have b4 : wr.cell? ⟨gc, 4, none⟩ = some (.int .i64 o2) := hc.cell 4
    have Hg1 := Lib.hid hg
    have Hc1 := Lib.hid hc
    have Ho1 := Lib.hid hown
    have Hf1 := Lib.hid hfr
    by_cases hlt : j < k
    · obtain ⟨i, hi⟩ : ∃ i, i = k - 1 - j := ⟨_, rfl⟩
      have hi' : (k : Int) - 1 - j = (i : Int) := by omega
      have hiN : o2 + i < N := by have := HN3.out; omega
      obtain ⟨x0, x1⟩ := hown.at_ (by rw [mid_len pre2 body Lq HZ.out hj, Hp2.out, Hb.out]; have := HN3.out; omega) hiN
      have M := Lib.hid (mid_set pre2 body Lq HZ.out hlt)
      rw [Hp2.out, ← hi] at M
      have Hi := Lib.hid hi
      have Q := Lib.hid (show Lq / 256 ^ (j + 1) = Lq / 256 ^ j / 256 by rw [Nat.pow_succ, Nat.div_div_eq_div_mul])
      have hq : Lq / 256 ^ j ≤ 4194304000 := Nat.le_trans (Nat.div_le_self _ _) hLq
      have i1 : (o2 : Int) + (i : Int) < (N : Int) := by omega
      have i2 : IntKind.i64.wrap ((o2 : Int) + (i : Int)) = (o2 : Int) + (i : Int) := IntWalk.i64_in _ (by omega)
      have i3 : (0 : Int) ≤ (o2 : Int) + (i : Int) := by omega
      have i4 : ((o2 : Int) + (i : Int)).toNat = o2 + i := by omega
      rw [hi']
      generalize Lq / 256 ^ j = q at *
      generalize (Mid pre2 body Z k j Lq).getD (o2 + i) 0 = y at *
      clear hi hi' hg hc hown hfr
      go_wp2_with fail
      refine region_tail 13 (by kernel_rfl) (by kernel_rfl) ?_
      simp only [List.take_succ_cons, List.take_zero, List.drop_succ_cons, List.drop_zero]
      repeat still_step
      refine wpStill_nil ?_
      go_wp2_with fail
      go_roundw
      case rel =>
        have hN := HN3.out
        have hi := Hi.out
        refine ⟨j + 1, by omega, by congr 1; omega, by rw [Q.out]; rfl, (Hg1.out.far (p := ⟨rc, o2 + i, none⟩) hgr _).drew, (Hc1.out.far (p := ⟨rc, o2 + i, none⟩) hcr _).drew, ?_, (Hf1.out.set_ (p := ⟨rc, o2 + i, none⟩) hS0r _).drew⟩
        rw [← M.out]
        exact Ho1.out.stored (by rw [mid_len pre2 body Lq HZ.out hj, Hp2.out, Hb.out]; omega) _ _
      case measure => first | (simp [intOf]; done) | (simp [intOf]; omega)
    · have hjk : j = k := by omega
      subst hjk
      rw [HL'.out]
      clear hg hc hown hfr
      have hi' : ¬ (0 : Int) ≤ (j : Int) - 1 - j := by omega
      have a2 : wr.cell? ⟨g, 2, none⟩ = some (.bool false) := Hg1.out.cell 2
      have a1 : wr.cell? ⟨g, 1, none⟩ = some vp := Hg1.out.cell 1
      have af1 := Hg1.out.frozen 1
      go_wp2_with fail
      go_quiet (fail)
      go_wp2_with fail
      go_end0
      have E := mid_end pre2 body Z j Lq
      rw [HE'.out, ← E]
      refine ⟨rfl, rc, ⟨_, (Hg1.out.drewN nq).set_ 1 _, ?_, rfl⟩, ?_, ?_⟩
      · have hlen := mid_len pre2 body Lq HZ.out (Nat.le_refl j)
        have hN : N = (Mid pre2 body Z j j Lq).length := by rw [hlen, Hp2.out, Hb.out]; exact HN3.out
        rw [← hN] at *
        exact Ho1.out.fr (S := [g]) (((Fr.refl [g] wr).drewN nq).set_ (p := ⟨g, 1, none⟩) (.inl (by simp)) _) (by simp [Value.ownBlock]; exact fun e => hgr e.symm)
      · exact HFin.out _ ((Hf1.out.drewN nq).set_ (p := ⟨g, 1, none⟩) (.inl HS0g.out) _)
      · exact HRc.out
end Go.Proofs.Ytndknmchhhljcaa
