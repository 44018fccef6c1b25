/- The contract of (*Builder).flushChild for a child of ASN.1, by the length of its length. (Printed by gen_flush.py.) -/
import Derived.Test.YtndknmchhhljcaaFlush
namespace Go.Proofs.Ytndknmchhhljcaa
open Go.RowKit
set_option linter.unusedVariables false

set_option maxRecDepth 100000 in
set_option maxHeartbeats 3200000 in
theorem flush_a3 (base g gc rc L o : Nat) (pre body : List Int) (off pl : Int) (pa : Bool) (ic icc vp : Value) (w : World)
    (hg : Blk w g 74 (pCs vp gc off pl pa ic)) (hc : Bld w base gc (pre ++ (0 :: body)) o 1 true icc (some rc)) (hgc : g ≠ gc)
    (hpre : pre.length = o) (hbody : body.length = L) (hl : o + (1 + L) ≤ 4194303000) (hlo : 65536 ≤ L) (hhi : L ≤ 16777215) (hbw : base ≤ w.heap.size) :
    Calls Try.prog 147 #[.pointer (some ⟨g, 0, none⟩)] w (FlPost base g (pre ++ ((131 : Int) :: (bigB 3 L ++ body))) off pl pa ic [g, gc, rc] w) := by
  obtain ⟨v, hc, hown, hrc⟩ := hc
  obtain ⟨c, rfl, hc1, hc2⟩ := hown.row hrc
  obtain ⟨N, hN⟩ : ∃ N, N = o + (1 + L) := ⟨_, rfl⟩
  have hlen : (pre ++ (0 :: body)).length = N := by simp; omega
  rw [hlen] at hc hown hc1
  have hgr : g ≠ rc := fun e => by
    have := hown.ne_blk hg (by decide)
    simp [Value.ownBlock, e] at this
  have hcr : gc ≠ rc := fun e => by
    have := hown.ne_blk hc (by decide)
    simp [Value.ownBlock, e] at this
  have a3 : w.cell? ⟨g, 3, none⟩ = some (.pointer (some ⟨gc, 0, none⟩)) := hg.cell 3
  have af3 := hg.frozen 3
  have b0 : w.cell? ⟨gc, 0, none⟩ = some .nilIface := hc.cell 0
  have b1 : w.cell? ⟨gc, 1, none⟩ = some (.slice (some ⟨rc, 0, none⟩) N c) := hc.cell 1
  have b3 : w.cell? ⟨gc, 3, none⟩ = some (.pointer none) := hc.cell 3
  have b4 : w.cell? ⟨gc, 4, none⟩ = some (.int .i64 o) := hc.cell 4
  have b5 : w.cell? ⟨gc, 5, none⟩ = some (.int .i64 1) := hc.cell 5
  have b6 : w.cell? ⟨gc, 6, none⟩ = some (.bool true) := hc.cell 6
  have e1 : IntKind.i64.wrap ((N : Int) - 1) = (N : Int) - 1 := IntWalk.i64_in _ (by omega)
  have e2 : IntKind.i64.wrap ((N : Int) - 1 - (o : Int)) = (L : Int) := by rw [IntWalk.i64_in _ (by omega)]; omega
  have Hg := Lib.hid hg
  have Hc := Lib.hid hc
  have Ho := Lib.hid hown
  have HN := Lib.hid hN
  have Hp := Lib.hid hpre
  have Hb := Lib.hid hbody
  have FN := Lib.hid (flush_none gc w b3)
  have HX := Lib.hid (show (pre ++ (0 :: body)).set o (131 : Int) = pre ++ ((131 : Int) :: body) by rw [List.set_append_right _ _ (by omega), hpre, Nat.sub_self, List.set_cons_zero])
  have hoN : o < N := by omega
  have hNle : N ≤ 4194303000 := by omega
  clear hg hc hown hN hpre hbody hlen hrc b3
  obtain ⟨RES, hRES⟩ : ∃ R, R = pre ++ ((131 : Int) :: (bigB 3 L ++ body)) := ⟨_, rfl⟩
  rw [← hRES]
  have HE0 := Lib.hid hRES
  clear hRES
  have hmk : ∀ w, (Instr.makeSlice 22 (.int .i64 3) (.int .i64 3)).run Try.prog w = .ok (.slice (some ⟨w.heap.size, 0, none⟩) 3 3) (w.alloc (.cells #[.int .u8 0, .int .u8 0, .int .u8 0] 5)) := fun _ => by kernel_rfl
  go_enter Try.func147, Try.ntmps147
  go_wp2_with fail
  refine FN.out.mono ?_
  rintro e w' ⟨rfl, rfl⟩
  go_wp2_with fail
  go_quiet (fail)
  go_wp2_with fail
  have G1 : Blk ((w.setCell ⟨g, 3, none⟩ (.pointer none)).drewN nq) g 74 (bCs vp off pl pa ic) := (Hg.out.set_ 3 _).drewN nq
  have D1 : Blk ((w.setCell ⟨g, 3, none⟩ (.pointer none)).drewN nq) gc 74 (bCs (.slice (some ⟨rc, 0, none⟩) N c) o 1 true icc) := (Hc.out.far (p := ⟨g, 3, none⟩) (fun e => hgc e.symm) _).drewN nq
  have F1 : Fr [g] w ((w.setCell ⟨g, 3, none⟩ (.pointer none)).drewN nq) := ((Fr.refl [g] w).set_ (.inl (by simp)) _).drewN nq
  have O1 : OwnB ((w.setCell ⟨g, 3, none⟩ (.pointer none)).drewN nq) base 5 (.slice (some ⟨rc, 0, none⟩) N c) (pre ++ (0 :: body)) := Ho.out.fr F1 (by simp [Value.ownBlock]; exact fun e => hgr e.symm)
  generalize (w.setCell ⟨g, 3, none⟩ (.pointer none)).drewN nq = w1 at *
  have hlen : (pre ++ (0 :: body)).length = N := by have h1 := Hp.out; have h2 := Hb.out; have h3 := HN.out; simp; omega
  obtain ⟨x0, x1⟩ := O1.at_ hlen hoN
  have c1 : w1.cell? ⟨gc, 1, none⟩ = some (.slice (some ⟨rc, 0, none⟩) N c) := D1.cell 1
  have c4 : w1.cell? ⟨gc, 4, none⟩ = some (.int .i64 o) := D1.cell 4
  have O2 := Lib.hid (O1.stored hlen o (131 : Int))
  rw [HX.out] at O2
  have G2 := Lib.hid (G1.far (p := ⟨rc, o, none⟩) hgr (.int .u8 (131 : Int)))
  have D2 := Lib.hid (D1.far (p := ⟨rc, o, none⟩) hcr (.int .u8 (131 : Int)))
  have F2 := Lib.hid ((F1.mono (S' := [g, gc, rc]) (by simp)).set_ (p := ⟨rc, o, none⟩) (.inl (by simp)) (.int .u8 (131 : Int)))
  have o1 : (o : Int) < (N : Int) := by omega
  clear a3 af3 b0 b1 b4 b5 b6 e1 e2 G1 D1 F1 O1 hlen
  generalize (pre ++ (0 :: body)).getD o 0 = y at *
  refine region_tail 10 (by kernel_rfl) (by kernel_rfl) ?_
  simp only [List.take_succ_cons, List.take_zero, List.drop_succ_cons, List.drop_zero]
  repeat still_step
  refine wpStill_nil ?_
  go_wp2_with fail
  obtain ⟨w2, hw2⟩ : ∃ w2, w2 = ((w1.setCell ⟨rc, o, none⟩ (.int .u8 (131 : Int))).alloc (.cells #[.int .u8 0, .int .u8 0, .int .u8 0] 5)).drew := ⟨_, rfl⟩
  rw [← hw2]
  have D3 : Bld w2 base gc (pre ++ ((131 : Int) :: body)) o 1 true icc (some rc) := by rw [hw2]; exact ⟨_, (D2.out.alloc _).drew, O2.out.alloc _, rfl⟩
  have G3 : Blk w2 g 74 (bCs vp off pl pa ic) := by rw [hw2]; exact (G2.out.alloc _).drew
  have F3 : Fr [g, gc, rc] w w2 := by rw [hw2]; exact (F2.out.alloc _).drew
  have Z3 : BIn w2 w2.heap.size (some ⟨w1.heap.size, 0, none⟩) [0, 0, 0] := by
    rw [hw2]
    have := (lit_bin (w1.setCell ⟨rc, o, none⟩ (.int .u8 (131 : Int))) [0, 0, 0] #[.int .u8 0, .int .u8 0, .int .u8 0] 3 rfl rfl (by omega)).lt
    rw [show (w1.setCell ⟨rc, o, none⟩ (.int .u8 (131 : Int))).heap.size = w1.heap.size by simp] at this
    exact this
  have B3 : base ≤ w2.heap.size := Nat.le_trans hbw F3.size
  have lenA : (pre ++ ((131 : Int) :: body)).length = o + 1 + L := by have h1 := Hp.out; have h2 := Hb.out; simp; omega
  clear hw2 G2 D2 F2 O2 hmk
  refine (add_any base gc (pre ++ ((131 : Int) :: body)) [0, 0, 0] o 1 true icc (some rc) (some ⟨w1.heap.size, 0, none⟩) 3 3 w2 D3 rfl Z3 (by rw [lenA]; have := HN.out; omega) B3).mono ?_
  rintro e w3 ⟨rfl, rb, b3, f3, hrb⟩
  obtain ⟨v3, hc3, ho3, hv3⟩ := b3
  obtain ⟨r, hr1, hr2⟩ : ∃ r, rb = some r ∧ (r = rc ∨ w.heap.size ≤ r) := by
    rcases hrb with rfl | ⟨q, rfl, hq⟩
    · exact ⟨rc, rfl, .inl rfl⟩
    · exact ⟨q, rfl, .inr (Nat.le_trans F3.size hq)⟩
  subst hr1
  obtain ⟨c3, rfl, hc31, hc32⟩ := ho3.row hv3
  obtain ⟨N3, hN3⟩ : ∃ N3, N3 = o + 1 + L + 3 := ⟨_, rfl⟩
  have hlen3 : (pre ++ ((131 : Int) :: body) ++ [0, 0, 0]).length = N3 := by rw [List.length_append, lenA, hN3]; rfl
  rw [hlen3] at hc3 ho3 hc31
  have G4 : Blk w3 g 74 (bCs vp off pl pa ic) := f3.blk G3 (by simp; exact ⟨hgc, hgr⟩)
  have F4 : Fr [g, gc, rc] w w3 := F3.trans f3 (by simp)
  have hgr3 : g ≠ r := fun e => by
    have := ho3.ne_blk G4 (by decide)
    simp [Value.ownBlock, e] at this
  have hcr3 : gc ≠ r := fun e => by
    have := ho3.ne_blk hc3 (by decide)
    simp [Value.ownBlock, e] at this
  have d1 : w3.cell? ⟨gc, 1, none⟩ = some (.slice (some ⟨r, 0, none⟩) N3 c3) := hc3.cell 1
  have d4 : w3.cell? ⟨gc, 4, none⟩ = some (.int .i64 o) := hc3.cell 4
  have d5 : w3.cell? ⟨gc, 5, none⟩ = some (.int .i64 1) := hc3.cell 5
  have hN3le : N3 ≤ 4194304000 := by omega
  have e3 : IntKind.i64.wrap ((o : Int) + 1) = (o : Int) + 1 := IntWalk.i64_in _ (by omega)
  have e4 : IntKind.i64.wrap ((o : Int) + 1 + 3) = (o : Int) + 1 + 3 := IntWalk.i64_in _ (by omega)
  have sA := fun W => sl_at r N3 c3 ((o : Int) + 1 + 3) (o + 1 + 3) (by omega) (by omega) (by omega) W
  have sB := fun W => sl_at r N3 c3 ((o : Int) + 1) (o + 1) (by omega) (by omega) (by omega) W
  have Hc3 := Lib.hid hc3
  have Ho3 := Lib.hid ho3
  have HG4 := Lib.hid G4
  have HF4 := Lib.hid F4
  have Hlen3 := Lib.hid hlen3
  have HN3 := Lib.hid hN3
  have HlenA := Lib.hid lenA
  clear hc3 ho3 G4 F4 hlen3 hN3 lenA D3 G3 F3 Z3 f3 hrb hv3 x0 x1 c1 c4 o1
  go_wp2_with fail
  go_quiet (fail)
  go_wp2_with fail
  refine region_tail 14 (by kernel_rfl) (by kernel_rfl) ?_
  simp only [List.take_succ_cons, List.take_zero, List.drop_succ_cons, List.drop_zero]
  repeat still_step
  refine wpStill_nil ?_
  obtain ⟨cur, q1, q2, q3, q4, q5, q6⟩ := Ho3.out.cur Hlen3.out
  have hN3 := HN3.out
  have hbl : (body.map (Value.int .u8)).length = L := by rw [List.length_map, Hb.out]
  have hlA := HlenA.out
  have htk : (pre ++ ((131 : Int) :: body) ++ [0, 0, 0]).drop (o + 1) = body ++ [0, 0, 0] := by
    rw [List.append_assoc, List.cons_append, List.drop_append, Hp.out, List.drop_of_length_le (by have := Hp.out; omega), show o + 1 - o = 1 by omega]; rfl
  have hsrc : ∀ (j : Nat) (v : Value), (body.map (Value.int .u8))[j]? = some v → w3.cell? ((⟨r, o + 1, none⟩ : Addr).add j) = some v := by
    intro j v hj
    have hjl : j < body.length := by
      rcases Nat.lt_or_ge j body.length with h | h
      · exact h
      · rw [List.getElem?_eq_none (by simpa using h)] at hj; cases hj
    have := (Ho3.out.at_ Hlen3.out (j := o + 1 + j) (by rw [hN3]; have := Hb.out; omega)).1
    rw [add_plain', this]
    rw [List.getElem?_map, List.getElem?_eq_getElem hjl] at hj
    rw [List.getD_eq_getElem?_getD, ← List.getElem?_drop, htk, List.getElem?_append_left hjl, List.getElem?_eq_getElem hjl]
    exact hj
  refine wpList_copy_own rfl (.tmp 118) (.tmp 124) 22 22 rfl 5 Try.underlying22 (by kernel_rfl) r (o + 1 + 3) (N3 - (o + 1 + 3)) (c3 - (o + 1 + 3)) ⟨r, o + 1, none⟩ (N3 - (o + 1)) (c3 - (o + 1)) rfl rfl cur.toArray 5 q1 (body.map (Value.int .u8))
    (by rw [hbl, hN3]; simp only [Nat.min_def]; split <;> omega) hsrc (by rw [hbl]; simp; omega) (by intro v hv; simp at hv; obtain ⟨y, _, rfl⟩ := hv; rfl) ?_
  simp only
  have O5 := OwnB.setRow (w := (w3.drewN nq).drew) (off := o + 1 + 3) (ys := body) q4 q5 q6 Hlen3.out (show ((w3.drewN nq).drew).heap[r]? = _ from q1) q2 q3 (by have := Hb.out; omega)
  obtain ⟨w5, hw5⟩ : ∃ w5, w5 = (w3.drewN nq).drew.setRow r (List.take (o + 1 + 3) cur ++ (List.map (Value.int .u8) body ++ List.drop (o + 1 + 3 + (List.map (Value.int .u8) body).length) cur)).toArray := ⟨_, rfl⟩
  rw [← hw5] at O5 ⊢
  have F5r : Fr [r] w3 w5 := by rw [hw5]; exact (((Fr.refl [r] w3).drewN nq).drew).setRow (.inl (by simp)) _
  have G5 := F5r.blk HG4.out (by simp; exact hgr3)
  have D5 := F5r.blk Hc3.out (by simp; exact hcr3)
  have F5 : Fr [g, gc, rc] w w5 := HF4.out.trans F5r (fun i hi => by
    rw [List.mem_singleton] at hi
    subst hi
    rcases hr2 with rfl | h
    · exact .inl (by simp)
    · exact .inr h)
  have p4 : w5.cell? ⟨gc, 4, none⟩ = some (.int .i64 o) := D5.cell 4
  have p5 : w5.cell? ⟨gc, 5, none⟩ = some (.int .i64 1) := D5.cell 5
  have pf4 := D5.frozen 4
  have pf5 := D5.frozen 5
  have HO5 := Lib.hid O5
  have HG5 := Lib.hid G5
  have HD5 := Lib.hid D5
  have HF5 := Lib.hid F5
  have HT := Lib.hid htk
  clear hw5 O5 G5 D5 F5 F5r q1 q2 q3 hbl hsrc d1 d4 d5 sA sB e4 hN3 hlA htk
  go_wp2_with fail
  obtain ⟨w6, hw6⟩ : ∃ w6, w6 = (w5.setCell ⟨gc, 4, none⟩ (.int .i64 ((o : Int) + 1))).setCell ⟨gc, 5, none⟩ (.int .i64 3) := ⟨_, rfl⟩
  have G6 : Blk w6 g 74 (bCs vp off pl pa ic) := by rw [hw6]; exact (HG5.out.far (p := ⟨gc, 4, none⟩) hgc _).far (p := ⟨gc, 5, none⟩) hgc _
  have D6 : Blk w6 gc 74 (bCs (.slice (some ⟨r, 0, none⟩) N3 c3) ((o : Int) + 1) 3 true icc) := by rw [hw6]; exact (HD5.out.set_ 4 _).set_ 5 _
  have F6 : Fr [g, gc, rc] w w6 := by rw [hw6]; exact (HF5.out.set_ (p := ⟨gc, 4, none⟩) (.inl (by simp)) _).set_ (p := ⟨gc, 5, none⟩) (.inl (by simp)) _
  have O6 : OwnB w6 base 5 (.slice (some ⟨r, 0, none⟩) N3 c3) ((pre ++ ((131 : Int) :: body) ++ [0, 0, 0]).take (o + 1 + 3) ++ body) := by
    rw [hw6]
    exact HO5.out.fr (S := [gc]) (((Fr.refl [gc] _).set_ (p := ⟨gc, 4, none⟩) (.inl (by simp)) _).set_ (p := ⟨gc, 5, none⟩) (.inl (by simp)) _) (by simp [Value.ownBlock]; exact fun e => hcr3 e.symm)
  rw [← hw6]
  clear hw6
  obtain ⟨o2, ho2⟩ : ∃ o2 : Nat, o2 = o + 1 := ⟨_, rfl⟩
  obtain ⟨k, hk0⟩ : ∃ k : Nat, k = 3 := ⟨_, rfl⟩
  rw [show (o : Int) + 1 = (o2 : Int) by omega, show (3 : Int) = (k : Int) by omega] at D6
  obtain ⟨pre2, hpre2⟩ : ∃ p2, p2 = pre ++ [(131 : Int)] := ⟨_, rfl⟩
  obtain ⟨Z, hZ0⟩ : ∃ Z, Z = (body ++ [0, 0, 0]).take 3 := ⟨_, rfl⟩
  have eC : (pre ++ ((131 : Int) :: body) ++ [0, 0, 0]).take (o + 1 + 3) ++ body = pre2 ++ (Z ++ body) := by
    rw [List.take_add, HT.out, hpre2, hZ0, ← List.append_assoc]
    congr 2
    rw [List.append_assoc, List.take_append, Hp.out, List.take_of_length_le (by have := Hp.out; omega), show o + 1 - o = 1 by omega]
    rfl
  rw [eC] at O6
  have HZ := Lib.hid (show Z.length = k by rw [hZ0, hk0, List.length_take, List.length_append, Hb.out]; first | (simp; done) | (simp; omega))
  obtain ⟨Lq, hLq0⟩ : ∃ Lq : Nat, Lq = L := ⟨_, rfl⟩
  have HE' := Lib.hid (show RES = pre2 ++ (bigB k (Lq : Int) ++ body) by rw [HE0.out, hpre2, hk0, hLq0]; simp)
  have O4 : OwnB w6 base 5 (.slice (some ⟨r, 0, none⟩) N3 c3) (Mid pre2 body Z k 0 Lq) := by rw [mid_zero pre2 body Lq HZ.out]; exact O6
  have Hp2 := Lib.hid (show pre2.length = o2 by rw [hpre2, List.length_append, Hp.out, ho2]; rfl)
  have Hn4 := Lib.hid (show N3 = o2 + (k + L) by rw [HN3.out, ho2, hk0]; omega)
  have HL' := Lib.hid (show Lq / 256 ^ k = 0 by rw [hk0, hLq0]; exact Nat.div_eq_of_lt (by simp only [Nat.reducePow]; omega))
  have hk : k ≤ 4 := by omega
  have hLq : Lq ≤ 4194304000 := by omega
  have HSL := Lib.hid (show Value.int .i64 (L : Int) = .int .i64 ((Lq / 256 ^ 0 : Nat) : Int) by rw [hLq0]; simp)
  have HSI := Lib.hid (show Value.int .i64 2 = .int .i64 ((k : Int) - 1 - ((0 : Nat) : Int)) by rw [hk0]; rfl)
  obtain ⟨S0, hS0⟩ : ∃ S0, S0 = [g, gc, rc] := ⟨_, rfl⟩
  have hS0r : r ∈ S0 ∨ w.heap.size ≤ r := by
    rw [hS0]
    rcases hr2 with rfl | h
    · exact .inl (by simp)
    · exact .inr h
  have HS0g := Lib.hid (show g ∈ S0 by rw [hS0]; simp)
  have HFin := Lib.hid (show ∀ w', Fr S0 w w' → Fr [g, gc, rc] w w' by rw [hS0]; exact fun _ h => h)
  have HRc := Lib.hid (show r ∈ [g, gc, rc] ∨ w.heap.size ≤ r by rw [← hS0]; exact hS0r)
  rw [← hS0] at F6
  have G1' := Lib.hid G6
  have D1' := Lib.hid D6
  have O1' := Lib.hid O4
  have F1' := Lib.hid F6
  clear hS0 G6 D6 O6 O4 F6 HE0 hk0 hLq0 hpre2 ho2 hZ0 eC HT HN3 HN Hp hr2 p4 p5 pf4 pf5 HX hlo hhi Hc3 Ho3 HG4 HF4 Hlen3 HlenA HO5 HG5 HD5 HF5
  go_loopw [8, 9] (fun l i wr => ∃ j : Nat, j ≤ k ∧ i = .int .i64 ((k : Int) - 1 - j) ∧ l = .int .i64 ((Lq / 256 ^ j : Nat) : Int) ∧ Blk wr g 74 (bCs vp off pl pa ic) ∧ Blk wr gc 74 (bCs (.slice (some ⟨r, 0, none⟩) N3 c3) o2 k true icc) ∧
    OwnB wr base 5 (.slice (some ⟨r, 0, none⟩) N3 c3) (Mid pre2 body Z k j Lq) ∧ Fr S0 w wr) (fun _ i _ => (intOf i + 1).toNat)
  case atStart => exact ⟨0, Nat.zero_le _, HSI.out, HSL.out, G1'.out, D1'.out, O1'.out, F1'.out⟩
  case round =>
    obtain ⟨j, hj, rfl, rfl, hg, hc, hown, hfr⟩ := hrel
    have hNle : N3 ≤ 4194304000 := by have := Hn4.out; omega
    have b1 : wr.cell? ⟨gc, 1, none⟩ = some (.slice (some ⟨r, 0, none⟩) N3 c3) := hc.cell 1
    have b4 : wr.cell? ⟨gc, 4, none⟩ = some (.int .i64 o2) := hc.cell 4
    have Hg1 := Lib.hid hg
    have Hc1 := Lib.hid hc
    have Ho1 := Lib.hid hown
    have Hf1 := Lib.hid hfr
    by_cases hlt : j < k
    · obtain ⟨i, hi⟩ : ∃ i, i = k - 1 - j := ⟨_, rfl⟩
      have hi' : (k : Int) - 1 - j = (i : Int) := by omega
      have hiN : o2 + i < N3 := by have := Hn4.out; omega
      obtain ⟨x0, x1⟩ := hown.at_ (by rw [mid_len pre2 body Lq HZ.out hj, Hp2.out, Hb.out]; have := Hn4.out; omega) hiN
      have M := Lib.hid (mid_set pre2 body Lq HZ.out hlt)
      rw [Hp2.out, ← hi] at M
      have Hi := Lib.hid hi
      have Q := Lib.hid (show Lq / 256 ^ (j + 1) = Lq / 256 ^ j / 256 by rw [Nat.pow_succ, Nat.div_div_eq_div_mul])
      have hq : Lq / 256 ^ j ≤ 4194304000 := Nat.le_trans (Nat.div_le_self _ _) hLq
      have i1 : (o2 : Int) + (i : Int) < (N3 : Int) := by omega
      have i2 : IntKind.i64.wrap ((o2 : Int) + (i : Int)) = (o2 : Int) + (i : Int) := IntWalk.i64_in _ (by omega)
      have i3 : (0 : Int) ≤ (o2 : Int) + (i : Int) := by omega
      have i4 : ((o2 : Int) + (i : Int)).toNat = o2 + i := by omega
      rw [hi']
      generalize Lq / 256 ^ j = q at *
      generalize (Mid pre2 body Z k j Lq).getD (o2 + i) 0 = y at *
      clear hi hi' hg hc hown hfr
      go_wp2_with fail
      refine region_tail 13 (by kernel_rfl) (by kernel_rfl) ?_
      simp only [List.take_succ_cons, List.take_zero, List.drop_succ_cons, List.drop_zero]
      repeat still_step
      refine wpStill_nil ?_
      go_wp2_with fail
      go_roundw
      case rel =>
        have hN := Hn4.out
        have hi := Hi.out
        refine ⟨j + 1, by omega, by congr 1; omega, by rw [Q.out]; rfl, (Hg1.out.far (p := ⟨r, o2 + i, none⟩) hgr3 _).drew, (Hc1.out.far (p := ⟨r, o2 + i, none⟩) hcr3 _).drew, ?_, (Hf1.out.set_ (p := ⟨r, o2 + i, none⟩) hS0r _).drew⟩
        rw [← M.out]
        exact Ho1.out.stored (by rw [mid_len pre2 body Lq HZ.out hj, Hp2.out, Hb.out]; omega) _ _
      case measure => first | (simp [intOf]; done) | (simp [intOf]; omega)
    · have hjk : j = k := by omega
      subst hjk
      rw [HL'.out]
      clear hg hc hown hfr
      have hi' : ¬ (0 : Int) ≤ (j : Int) - 1 - j := by omega
      have a2 : wr.cell? ⟨g, 2, none⟩ = some (.bool false) := Hg1.out.cell 2
      have a1 : wr.cell? ⟨g, 1, none⟩ = some vp := Hg1.out.cell 1
      have af1 := Hg1.out.frozen 1
      go_wp2_with fail
      go_quiet (fail)
      go_wp2_with fail
      go_end0
      have E := mid_end pre2 body Z j Lq
      rw [HE'.out, ← E]
      refine ⟨rfl, r, ⟨_, (Hg1.out.drewN nq).set_ 1 _, ?_, rfl⟩, ?_, ?_⟩
      · have hlen := mid_len pre2 body Lq HZ.out (Nat.le_refl j)
        have hN : N3 = (Mid pre2 body Z j j Lq).length := by rw [hlen, Hp2.out, Hb.out]; exact Hn4.out
        rw [← hN] at *
        exact Ho1.out.fr (S := [g]) (((Fr.refl [g] wr).drewN nq).set_ (p := ⟨g, 1, none⟩) (.inl (by simp)) _) (by simp [Value.ownBlock]; exact fun e => hgr3 e.symm)
      · exact HFin.out _ ((Hf1.out.drewN nq).set_ (p := ⟨g, 1, none⟩) (.inl HS0g.out) _)
      · exact HRc.out
end Go.Proofs.Ytndknmchhhljcaa
