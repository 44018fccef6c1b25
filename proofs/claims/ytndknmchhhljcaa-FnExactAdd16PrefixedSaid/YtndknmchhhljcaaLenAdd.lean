/- The contract of (*Builder).addLengthPrefixed on a builder that has had no continuation yet, where the continuation adds bytes and returns. -/
import Derived.Test.YtndknmchhhljcaaFlush
import Derived.BigRegion
namespace Go.Proofs.Ytndknmchhhljcaa
open Go.RowKit
set_option linter.unusedVariables false

/-- What a step with a continuation leaves. -/
def ContAdd (base g : Nat) (xs : List Int) (off pl : Int) (pa : Bool) (rb : Option Nat) (w : World) (e : Ending) (w' : World) : Prop := ∃ ic, AddPost base g xs off pl pa ic rb w e w'

set_option maxRecDepth 100000 in
set_option maxHeartbeats 3200000 in
theorem addLP_ok (base g K p k : Nat) (pa pb : Bool) (xs out RES : List Int) (off pl : Int) (rb : Option Nat) (zs : Array Value) (w : World)
    (hg : Bld w base g xs off pl pb (.pointer none) rb) (hl : xs.length + (k + out.length) ≤ 4194303000) (hk : 0 < k) (hk4 : k ≤ 4) (hb : base ≤ w.heap.size)
    (hmk : ∀ W, (Instr.makeSlice 22 (.int .i64 k) (.int .i64 k)).run Try.prog W = .ok (.slice (some ⟨W.heap.size, 0, none⟩) k k) (W.alloc (.cells zs 5)))
    (hzs : zs.toList = (List.replicate k 0).map (Value.int .u8))
    (hK : ∀ args W, (callFunc K args).run Try.prog W = .ok (.enter K args) W)
    (hf : ∀ (gc rc : Nat) (ic : Value) (w1 : World), Fr (g :: rb.toList) w w1 → Bld w1 base gc (xs ++ List.replicate k 0) xs.length k pa ic (some rc) → base ≤ w1.heap.size → w.heap.size ≤ gc → (rb = some rc ∨ w.heap.size ≤ rc) →
      Calls Try.prog K #[.pointer (some ⟨gc, 0, none⟩), .pointer (some ⟨p, 0, none⟩)] w1 (AddPost base gc (xs ++ (List.replicate k 0 ++ out)) xs.length k pa ic (some rc) w1))
    (hfl : ∀ (gc rc : Nat) (ic icc vp : Value) (w1 : World), Blk w1 g 74 (pCs vp gc off pl pb ic) → Bld w1 base gc (xs ++ (List.replicate k 0 ++ out)) xs.length k pa icc (some rc) → g ≠ gc → base ≤ w1.heap.size →
      Calls Try.prog 147 #[.pointer (some ⟨g, 0, none⟩)] w1 (FlPost base g RES off pl pb ic [g, gc, rc] w1)) :
    Calls Try.prog 126 #[.pointer (some ⟨g, 0, none⟩), .int .i64 k, .bool pa, .func (.func K) #[] #[.pointer (some ⟨p, 0, none⟩)]] w (ContAdd base g RES off pl pb rb w) := by
  have Hf := Lib.hid hf
  have Hfl := Lib.hid hfl
  have Hg := Lib.hid hg
  have HZ := Lib.hid hzs
  obtain ⟨v, hg1, hown, hrb⟩ := hg
  obtain ⟨av, cv, rfl, _, hcv, _, _⟩ := hown.form
  obtain ⟨m, hm⟩ : ∃ m, m = xs.length := ⟨_, rfl⟩
  have Hm := Lib.hid hm
  have c0 : w.cell? ⟨g, 0, none⟩ = some .nilIface := hg1.cell 0
  have c1 : w.cell? ⟨g, 1, none⟩ = some (.slice av m cv) := by rw [hm]; exact hg1.cell 1
  rw [← hm] at hl
  have hgl := hg1.lt
  clear hf hfl hg1 hown hrb hzs hm
  go_enter Try.func126, Try.ntmps126
  go_wp2_with fail
  obtain ⟨w1, hw1⟩ : ∃ w1, w1 = w.alloc (.cells zs 5) := ⟨_, rfl⟩
  have F1 : Fr [] w w1 := by rw [hw1]; exact (Fr.refl [] w).alloc _
  have Z1 : BIn w1 w1.heap.size (some ⟨w.heap.size, 0, none⟩) (List.replicate k 0) := by
    rw [hw1]
    exact (lit_bin w (List.replicate k 0) zs k HZ.out (by simp) (by omega)).lt
  rw [← hw1]
  clear hw1
  refine (add_any base g xs (List.replicate k 0) off pl pb (.pointer none) rb (some ⟨w.heap.size, 0, none⟩) k k w1 (Hg.out.keep F1) (by simp) Z1 (by have := Hm.out; omega) (Nat.le_trans hb F1.size)).mono ?_
  intro e w2 hq
  obtain ⟨rfl, rb2, b2, f2, hr2⟩ := hq.from_ F1
  obtain ⟨v2, hg2, ho2, hv2⟩ := b2
  have hl2 : (xs ++ List.replicate k 0).length = m + k := by rw [List.length_append, List.length_replicate, Hm.out]
  obtain ⟨rc, hrc⟩ : ∃ rc, v2.ownBlock = some rc := by
    rcases ho2.2 with ⟨_, h0⟩ | ⟨g', cap, cur, h, _⟩
    · rw [hl2] at h0; omega
    · exact ⟨g', by rw [h]; rfl⟩
  obtain ⟨c2, rfl, h21, h22⟩ := ho2.row hrc
  have hrc2 : rb2 = some rc := by rw [← hv2, hrc]
  subst hrc2
  rw [hl2] at hg2 ho2 h21
  have d1 : w2.cell? ⟨g, 1, none⟩ = some (.slice (some ⟨rc, 0, none⟩) (m + k) c2) := hg2.cell 1
  have d2 : w2.cell? ⟨g, 2, none⟩ = some (.bool false) := hg2.cell 2
  have d3 : w2.cell? ⟨g, 3, none⟩ = some (.pointer none) := hg2.cell 3
  have d7 : w2.cell? ⟨g, 7, none⟩ = some (.pointer none) := hg2.cell 7
  have df3 := hg2.frozen 3
  have df7 := hg2.frozen 7
  have hgl2 := hg2.lt
  have Hg2 := Lib.hid hg2
  have Ho2 := Lib.hid ho2
  have HF2 := Lib.hid f2
  have Hr2 := Lib.hid hr2
  clear hg2 ho2 f2 hr2 hv2 hrc Z1 F1
  go_wp2_with fail
  obtain ⟨w3, hw3⟩ : ∃ w3, w3 = (w2.setCell ⟨g, 7, none⟩ (.pointer (some ⟨w2.heap.size, 0, none⟩))).alloc (.cells #[.bool false] 4) := ⟨_, rfl⟩
  have F3 : Fr [g] w2 w3 := by rw [hw3]; exact ((Fr.refl [g] w2).set_ (.inl (by simp)) _).alloc _
  have G3 : Blk w3 g 74 (bCs (.slice (some ⟨rc, 0, none⟩) (m + k) c2) off pl pb (.pointer (some ⟨w2.heap.size, 0, none⟩))) := by rw [hw3]; exact (Hg2.out.set_ 7 _).alloc _
  have Q3 : Blk w3 w2.heap.size 4 #[.bool false] := by rw [hw3]; exact Blk.new' (by simp) _ _
  have S3 : w3.heap.size = w2.heap.size + 1 := by rw [hw3]; simp
  rw [← hw3]
  have HS3 := Lib.hid S3
  have q1 : w3.cell? ⟨g, 1, none⟩ = some (.slice (some ⟨rc, 0, none⟩) (m + k) c2) := G3.cell 1
  have q2 : w3.cell? ⟨g, 2, none⟩ = some (.bool false) := G3.cell 2
  have q3 : w3.cell? ⟨g, 3, none⟩ = some (.pointer none) := G3.cell 3
  have q7 : w3.cell? ⟨g, 7, none⟩ = some (.pointer (some ⟨w2.heap.size, 0, none⟩)) := G3.cell 7
  have qf3 := G3.frozen 3
  have hgl3 := G3.lt
  have HF3 := Lib.hid F3
  have HG3 := Lib.hid G3
  have HQ3 := Lib.hid Q3
  clear hw3 d1 d2 d3 d7 df3 df7 F3 G3 Q3 S3 c0 c1
  go_region
  go_wp2_with fail
  obtain ⟨gq, hgq⟩ : ∃ gq, gq = w2.heap.size := ⟨_, rfl⟩
  obtain ⟨gc, hgc⟩ : ∃ gc, gc = w3.heap.size := ⟨_, rfl⟩
  obtain ⟨w4, hw4⟩ : ∃ w4, w4 = ((w3.setCell ⟨g, 3, none⟩ (.pointer (some ⟨w3.heap.size, 0, none⟩))).alloc (.cells (bCs (.slice (some ⟨rc, 0, none⟩) (m + k) c2) m k pa (.pointer (some ⟨w2.heap.size, 0, none⟩))) 74)).drew := ⟨_, rfl⟩
  have F4 : Fr [g] w2 w4 := by rw [hw4]; exact (((HF3.out).set_ (p := ⟨g, 3, none⟩) (.inl (by simp)) _).alloc _).drew
  have G4 : Blk w4 g 74 (pCs (.slice (some ⟨rc, 0, none⟩) (m + k) c2) gc off pl pb (.pointer (some ⟨gq, 0, none⟩))) := by rw [hw4, hgc, hgq]; exact ((HG3.out.set_ 3 _).alloc _).drew
  have C4 : Blk w4 gc 74 (bCs (.slice (some ⟨rc, 0, none⟩) (m + k) c2) m k pa (.pointer (some ⟨gq, 0, none⟩))) := by rw [hw4, hgc, hgq]; exact (Blk.new' (by simp) _ _).drew
  have Q4 : Blk w4 gq 4 #[.bool false] := by rw [hw4, hgq]; exact ((HQ3.out.far (p := ⟨g, 3, none⟩) (by simp; omega) _).alloc _).drew
  have O4 : OwnB w4 base 5 (.slice (some ⟨rc, 0, none⟩) (m + k) c2) (xs ++ List.replicate k 0) := Ho2.out.fr F4 (by
    have := Ho2.out.ne_blk Hg2.out (by decide)
    simp [Value.ownBlock] at this ⊢
    exact this)
  have ngc : w2.heap.size < gc := by rw [hgc, HS3.out]; omega
  rw [show ((((w3.setCell ⟨g, 3, none⟩ (.pointer (some ⟨w3.heap.size, 0, none⟩))).alloc (.cells #[.nilIface, .slice (some ⟨rc, 0, none⟩) (m + k) c2, .bool false, .pointer none, .int .i64 m, .int .i64 k, .bool pa, .pointer (some ⟨w2.heap.size, 0, none⟩)] 74)).drew)) = w4 from hw4.symm, ← hgc]
  clear hw4
  have g7 : w4.cell? ⟨g, 7, none⟩ = some (.pointer (some ⟨gq, 0, none⟩)) := G4.cell 7
  have w2le : w.heap.size ≤ w2.heap.size := HF2.out.size
  have nggq : g ≠ gq := by omega
  have nggc : g ≠ gc := by omega
  have ngcgq : gc ≠ gq := by omega
  have nrq : rc ≠ gq := by
    have := O4.ne_blk Q4 (by decide)
    intro e
    simp [Value.ownBlock, e] at this
  have nrg : rc ≠ g := by
    have := O4.ne_blk G4 (by decide)
    intro e
    simp [Value.ownBlock, e] at this
  have hrclt : rc < w4.heap.size := (O4.lt rc rfl).2
  have Prc : rc ∈ g :: rb.toList ∨ w.heap.size ≤ rc := by
    rcases Hr2.out with h | ⟨q, h, hq⟩
    · left; rw [← h]; simp
    · right; injection h with h; omega
  have Prb : rb = some rc ∨ w.heap.size ≤ rc := by
    rcases Hr2.out with h | ⟨q, h, hq⟩
    · exact .inl h.symm
    · right; injection h with h; omega
  have Fw4 : Fr (g :: rb.toList) w w4 := HF2.out.trans F4 (fun i hi => by simp at hi; subst hi; exact .inl (by simp))
  refine (cont_first g gq gc K p [gc, rc] (fun wa wb => Blk wb g 74 (pCs (.slice (some ⟨rc, 0, none⟩) (m + k) c2) gc off pl pb (.pointer (some ⟨gq, 0, none⟩))) ∧
      ∃ rb', Bld wb base gc (xs ++ (List.replicate k 0 ++ out)) xs.length k pa (.pointer (some ⟨gq, 0, none⟩)) (some rb') ∧ (rb' = rc ∨ wa.heap.size ≤ rb') ∧ w4.heap.size ≤ wa.heap.size) w4 g7 nggq Q4 ?c1 ?c2 hK ?c3 ?c4).mono ?_
  case c1 => intro i hi; simp at hi; rcases hi with rfl | rfl; exact C4.lt; exact hrclt
  case c2 => simp; exact ⟨fun e => ngcgq e.symm, fun e => nrq e.symm⟩
  case c4 => intro wa wb hQ; exact hQ.1.cell 7
  case c3 =>
    intro wa fa lta
    have Ca := fa.blk C4 (by simp; exact ngcgq)
    have Oa := O4.fr fa (by simp [Value.ownBlock]; exact nrq)
    have Ga := fa.blk G4 (by simp; exact nggq)
    refine (Hf.out gc rc (.pointer (some ⟨gq, 0, none⟩)) wa (Fw4.trans fa (fun i hi => by simp at hi; subst hi; exact .inr (by omega))) ⟨_, by rw [← Hm.out]; exact Ca, Oa, rfl⟩ (by have := fa.size; have := Fw4.size; omega) (by omega) Prb).mono ?_
    rintro e wb ⟨he, rb', b1, b2, b3⟩
    have hb' : ∃ r', rb' = some r' ∧ (r' = rc ∨ wa.heap.size ≤ r') := by
      rcases b3 with h | ⟨q, h, hq⟩
      · exact ⟨rc, h, .inl rfl⟩
      · exact ⟨q, h, .inr hq⟩
    obtain ⟨r', rfl, hr'⟩ := hb'
    exact ⟨he, b2, b2.blk Ga (by simp; exact ⟨nggc, fun e => nrg e.symm⟩), r', b1, hr', fa.size⟩
  rintro e w5 ⟨rfl, wa, wb, fa, qa, fb, ⟨gb, r', cb, hr', hwa⟩, hw5, qb⟩
  have f5 : Fr [gq] wb w5 := by rw [hw5]; exact (Fr.refl [gq] wb).set_ (.inl (by simp)) _
  clear hw5
  have nr' : r' ≠ gq := by
    obtain ⟨vb, _, ob, eb⟩ := cb
    have := ob.ne_blk qb (by decide)
    intro e
    rw [eb, e] at this
    exact this rfl
  have G5 := f5.blk gb (by simp; exact nggq)
  have C5 := cb.fr f5 (by simp; exact ngcgq) (by intro q hq; injection hq with hq; subst hq; simp; exact nr')
  have Fw5 : Fr (g :: rb.toList) w w5 := ((Fw4.trans fa (fun i hi => by simp at hi; subst hi; exact .inr (by omega))).trans fb (fun i hi => by
    simp at hi
    rcases hi with rfl | rfl
    · exact .inr (by omega)
    · exact Prc)).trans f5 (fun i hi => by simp at hi; subst hi; exact .inr (by omega))
  have Pr' : r' ∈ g :: rb.toList ∨ w.heap.size ≤ r' := by
    rcases hr' with rfl | h
    · exact Prc
    · exact .inr (by have := Fw4.size; omega)
  have HFw5 := Lib.hid Fw5
  have HPr := Lib.hid Pr'
  have H6 := Lib.hid (Hfl.out gc r' _ _ _ w5 G5 C5 nggc (Nat.le_trans hb Fw5.size))
  clear G5 C5 Fw5 gb cb hr' fa fb f5 qa qb G4 C4 Q4 O4 F4 g7 q1 q2 q3 q7 qf3 Pr' Prc Fw4 hgc hgq
  go_wp2_with fail
  refine H6.out.mono ?_
  rintro e w6 ⟨rfl, r6, b6, f6, h6⟩
  have b6' := Lib.hid b6
  obtain ⟨v6, k6, _, _⟩ := b6
  have k3 : w6.cell? ⟨g, 3, none⟩ = some (.pointer none) := k6.cell 3
  clear k6
  go_wp2_with fail
  go_end0
  have hwle : w.heap.size ≤ gc := by omega
  refine ⟨_, rfl, some r6, b6'.out, HFw5.out.trans f6 (fun i hi => by
    simp at hi
    rcases hi with rfl | rfl | rfl
    · exact .inl (by simp)
    · exact .inr hwle
    · exact HPr.out), ?_⟩
  have n6 : r6 ≠ g := by
    obtain ⟨vb, kb, ob, eb⟩ := b6'.out
    have := ob.ne_blk kb (by decide)
    intro e
    rw [eb, e] at this
    exact this rfl
  have P6 : r6 ∈ g :: rb.toList ∨ w.heap.size ≤ r6 := by
    rcases h6 with h | h
    · simp at h
      rcases h with rfl | rfl | rfl
      · exact absurd rfl n6
      · exact .inr hwle
      · exact HPr.out
    · exact .inr (Nat.le_trans HFw5.out.size h)
  rcases P6 with h | h
  · left
    rw [List.mem_cons] at h
    rcases h with h | h
    · exact absurd h n6
    · cases rb with
      | none => simp at h
      | some x => simp at h; rw [h]
  · exact .inr ⟨r6, rfl, h⟩
end Go.Proofs.Ytndknmchhhljcaa
