/- The contract of (*Builder).addLengthPrefixed, whatever the builder's flag and whatever the continuation's outcome. -/
import Derived.Test.YtdnepnnkpaoaaaaGCall
import Derived.BigRegion
namespace Go.Proofs.Ytdnepnnkpaoaaaa
open Go.RowKit
set_option linter.unusedVariables false

/-- The state behind the making of the flag. -/
def LpMid (K : Kd) (base g m : Nat) (v : Value) (off pl : Nat) (pb : Bool) (ic : Value) (ins : Bool) (w2 : World) (s8 : Value) (wc : World) : Prop :=
  s8 = .int .i64 (m : Int) ∧ ∃ gq, Blk wc g 65 (bCs K.fix.isSome v off pl pb (.pointer (some ⟨gq, 0, none⟩))) ∧ Blk wc gq 4 #[.bool ins] ∧ base ≤ gq ∧ Fr [g] w2 wc ∧ (ic = .pointer (some ⟨gq, 0, none⟩) ∨ (ins = false ∧ w2.heap.size ≤ gq))

theorem Flag.fr {S : List Nat} {w w' : World} {base : Nat} {ic : Value} {ins : Bool} (h : Flag w base ic ins) (hf : Fr S w w') (hS : ∀ i ∈ icB ic, i ∉ S) : Flag w' base ic ins := by
  rcases h with h | ⟨gq, rfl, h1, h2⟩
  · exact .inl h
  · exact .inr ⟨gq, rfl, hf.blk h1 (hS gq (by simp [icB])), h2⟩

set_option maxRecDepth 100000 in
set_option maxHeartbeats 6400000 in
theorem addLP (K : Kd) (base g KF p k off pl : Nat) (pa pb : Bool) (xs : List Int) (res : Option (List Int)) (ic : Value) (rb : Option Nat) (ins : Bool) (dep M : Nat) (zs : Array Value) (w : World)
    (hg : Bld K w base g xs off pl pb ic rb) (hfl : Flag w base ic ins) (hop : off + pl ≤ xs.length) (hb : base ≤ w.heap.size) (hk : 0 < k) (hk4 : k ≤ 4) (hpa : pa = true → k = 1) (hl0 : xs.length + k ≤ K.lim)
    (hl : ∀ out, res = some out → xs.length + (k + out.length) ≤ K.lim ∧ (pa = true → xs.length + (1 + extraB out.length + out.length) ≤ K.lim) ∧ out.length ≤ 16777215)
    (hfx : res = none → K.fix = none ∧ M + 4 * (dep + 1) ≤ 16000000 ∧ 16000000 ≤ K.lim)
    (hmk : ∀ W, (Instr.makeSlice 22 (.int .i64 k) (.int .i64 k)).run Try.prog W = .ok (.slice (some ⟨W.heap.size, 0, none⟩) k k) (W.alloc (.cells zs 5)))
    (hzs : zs.toList = (List.replicate k 0).map (Value.int .u8))
    (hK : ∀ args W, (callFunc KF args).run Try.prog W = .ok (.enter KF args) W)
    (hf : ∀ (gc rc : Nat) (icc : Value) (w1 : World), Fr (fS g rb ic false) w w1 → (∀ gq, ins = true → ic = .pointer (some ⟨gq, 0, none⟩) → icc = ic) → Bld K w1 base gc (xs ++ List.replicate k 0) xs.length k pa icc (some rc) → Flag w1 base icc true → base ≤ w1.heap.size → w.heap.size ≤ gc → (rb = some rc ∨ w.heap.size ≤ rc) →
      Calls Try.prog KF #[.pointer (some ⟨gc, 0, none⟩), .pointer (some ⟨p, 0, none⟩)] w1 (Outc K base gc xs.length k pa icc (some rc) true dep M w1 (res.map fun out => xs ++ (List.replicate k 0 ++ out)))) :
    Calls Try.prog 59 #[.pointer (some ⟨g, 0, none⟩), .int .i64 k, .bool pa, .func (.func KF) #[] #[.pointer (some ⟨p, 0, none⟩)]] w (Outc K base g off pl pb ic rb ins (dep + 1) M w (res.bind (flushed pa k xs))) := by
  obtain ⟨pq, rfl⟩ : ∃ pq, ic = .pointer pq := by
    rcases hfl with ⟨_, h⟩ | ⟨gq, h, _⟩
    · exact ⟨_, h⟩
    · exact ⟨_, h⟩
  have Hf := Lib.hid hf
  have Hg := Lib.hid hg
  have HZ := Lib.hid hzs
  have Hfl := Lib.hid hfl
  have Hop := Lib.hid hop
  have Hl := Lib.hid hl
  have Hfx := Lib.hid hfx
  have Hpa := Lib.hid hpa
  have HKL := Lib.hid K.ok
  obtain ⟨v, hg1, hown, hrb, hfix⟩ := hg
  obtain ⟨av, cv, rfl, _, hcv, _, _⟩ := hown.form
  obtain ⟨m, hm⟩ : ∃ m, m = xs.length := ⟨_, rfl⟩
  have Hm := Lib.hid hm
  have c0 : w.cell? ⟨g, 0, none⟩ = some .nilIface := hg1.cell 0
  have c1 : w.cell? ⟨g, 1, none⟩ = some (.slice av m cv) := by rw [hm]; exact hg1.cell 1
  rw [← hm] at hl0
  have hmL : m + k ≤ 4194303000 := by have := HKL.out; omega
  have Hl0 := Lib.hid hl0
  have hgl := hg1.lt
  clear hf hfl hg1 hown hrb hzs hm hop hl hfx hpa hfix hl0
  obtain ⟨Q, hQ⟩ : ∃ Q, Q = Outc K base g off pl pb (.pointer pq) rb ins (dep + 1) M w (res.bind (flushed pa k xs)) := ⟨_, rfl⟩
  rw [← hQ]
  have HQ := Lib.hid hQ
  clear hQ
  go_enter Try.func59, Try.ntmps59
  go_wp2_with fail
  obtain ⟨w1, hw1⟩ : ∃ w1, w1 = w.alloc (.cells zs 5) := ⟨_, rfl⟩
  have F1 : Fr [] w w1 := by rw [hw1]; exact (Fr.refl [] w).alloc _
  have Z1 : BIn w1 w1.heap.size (some ⟨w.heap.size, 0, none⟩) (List.replicate k 0) := by
    rw [hw1]
    exact (lit_bin w (List.replicate k 0) zs k HZ.out (by simp) (by omega)).lt
  rw [← hw1]
  clear hw1
  refine (add_any K base g xs (List.replicate k 0) off pl pb (.pointer pq) rb (some ⟨w.heap.size, 0, none⟩) k k w1 (Hg.out.keep F1) (by simp) Z1 (by have := Hm.out; have := Hl0.out; omega) (Nat.le_trans hb F1.size)).mono ?_
  intro e w2 hq
  obtain ⟨rfl, rb2, b2, f2, hr2⟩ := hq.from_ F1
  obtain ⟨v2, hg2, ho2, hv2, hx2⟩ := b2
  have hl2 : (xs ++ List.replicate k 0).length = m + k := by rw [List.length_append, List.length_replicate, Hm.out]
  obtain ⟨rc, hrc⟩ : ∃ rc, v2.ownBlock = some rc := by
    rcases ho2.2 with ⟨_, h0⟩ | ⟨g', cap, cur, h, _⟩
    · rw [hl2] at h0; omega
    · exact ⟨g', by rw [h]; rfl⟩
  obtain ⟨c2, rfl, h21, h22⟩ := ho2.row hrc
  have hrc2 : rb2 = some rc := by rw [← hv2, hrc]
  subst hrc2
  rw [hl2] at hg2 ho2 h21
  have Hx2 := Lib.hid hx2
  have d3 : w2.cell? ⟨g, 3, none⟩ = some (.pointer none) := hg2.cell 3
  have d7 : w2.cell? ⟨g, 7, none⟩ = some (.pointer pq) := hg2.cell 7
  have df7 := hg2.frozen 7
  have hgl2 := hg2.lt
  have Hg2 := Lib.hid hg2
  have Ho2 := Lib.hid ho2
  have HF2 := Lib.hid f2
  have Hr2 := Lib.hid hr2
  have Hfl2 := Lib.hid (Hfl.out.fr (S := g :: rb.toList) f2 (by
    intro i hi hi'
    rcases Hfl.out with ⟨_, h⟩ | ⟨gq, h, hqq, _⟩
    · rw [h] at hi; simp [icB] at hi
    · rw [h] at hi
      simp [icB] at hi
      rw [List.mem_cons, hi] at hi'
      obtain ⟨v0, h0, _⟩ := Hg.out
      rcases hi' with hi' | hi'
      · exact Blk.ne h0 hqq (by decide) hi'.symm
      · exact Hg.out.row_ne hqq (by decide) (by cases rb with
          | none => simp at hi'
          | some q => simp at hi'; rw [hi'])))
  clear hg2 ho2 f2 hr2 hv2 hrc Z1 F1 hx2
  have hfl3 : (ins = false ∧ pq = none) ∨ ∃ gq, pq = some ⟨gq, 0, none⟩ ∧ Blk w2 gq 4 #[.bool ins] ∧ base ≤ gq := by
    rcases Hfl2.out with ⟨h, h'⟩ | ⟨gq, h', h⟩
    · injection h' with h'; exact .inl ⟨h, h'⟩
    · injection h' with h'; exact .inr ⟨gq, h', h⟩
  go_upto_if 27 with (fail)
  go_cut [8] from 14 (fun s8 wc => LpMid K base g m (.slice (some ⟨rc, 0, none⟩) (m + k) c2) off pl pb (.pointer pq) ins w2 s8 wc)
  case first =>
    rcases hfl3 with ⟨hi, rfl⟩ | ⟨gq, rfl, hq, hbq⟩
    · subst hi
      go_wp2_with fail
      go_meet
      case rel =>
        refine ⟨rfl, w2.heap.size, (Hg2.out.set_ 7 _).alloc _, Blk.new' (by simp) _ _, Nat.le_trans hb HF2.out.size, ((Fr.refl [g] w2).set_ (.inl (by simp)) _).alloc _, .inr ⟨rfl, Nat.le_refl _⟩⟩
    · have Hq := Lib.hid hq
      clear hq
      go_wp2_with fail
      go_meet
      case rel => exact ⟨rfl, gq, Hg2.out, Hq.out, hbq, Fr.refl _ _, .inl rfl⟩
  case rest =>
    obtain ⟨rfl, gq, G3, Q3, hbq, F3, hic⟩ := hcut
    have q1 : wc.cell? ⟨g, 1, none⟩ = some (.slice (some ⟨rc, 0, none⟩) (m + k) c2) := G3.cell 1
    have q2 : wc.cell? ⟨g, 2, none⟩ = some (.bool K.fix.isSome) := G3.cell 2
    have q3 : wc.cell? ⟨g, 3, none⟩ = some (.pointer none) := G3.cell 3
    have q7 : wc.cell? ⟨g, 7, none⟩ = some (.pointer (some ⟨gq, 0, none⟩)) := G3.cell 7
    have qf3 := G3.frozen 3
    have hgl3 := G3.lt
    have hql3 := Q3.lt
    have HF3 := Lib.hid F3
    have HG3 := Lib.hid G3
    have HQ3 := Lib.hid Q3
    have Hic := Lib.hid hic
    obtain ⟨fx, hfxd⟩ : ∃ fx, fx = K.fix.isSome := ⟨_, rfl⟩
    rw [← hfxd] at q2 HG3 Hg2
    have Hfxd := Lib.hid hfxd
    clear d3 d7 df7 F3 G3 Q3 c0 c1 hfl3 hic hfxd
    go_wp2_with fail
    go_region
    go_wp2_with fail
    obtain ⟨gc, hgc⟩ : ∃ gc, gc = wc.heap.size := ⟨_, rfl⟩
    obtain ⟨w4, hw4⟩ : ∃ w4, w4 = ((wc.setCell ⟨g, 3, none⟩ (.pointer (some ⟨wc.heap.size, 0, none⟩))).alloc (.cells (bCs fx (.slice (some ⟨rc, 0, none⟩) (m + k) c2) m k pa (.pointer (some ⟨gq, 0, none⟩))) 65)).drew := ⟨_, rfl⟩
    have F4 : Fr [g] w2 w4 := by rw [hw4]; exact (((HF3.out).set_ (p := ⟨g, 3, none⟩) (.inl (by simp)) _).alloc _).drew
    have G4 : Blk w4 g 65 (pCs .nilIface fx (.slice (some ⟨rc, 0, none⟩) (m + k) c2) gc off pl pb (.pointer (some ⟨gq, 0, none⟩))) := by rw [hw4, hgc]; exact ((HG3.out.set_ 3 _).alloc _).drew
    have C4 : Blk w4 gc 65 (bCs fx (.slice (some ⟨rc, 0, none⟩) (m + k) c2) m k pa (.pointer (some ⟨gq, 0, none⟩))) := by rw [hw4, hgc]; exact (Blk.new' (by simp) _ _).drew
    have hgq0 : g ≠ gq := Blk.ne HG3.out HQ3.out (by decide)
    have Q4 : Blk w4 gq 4 #[.bool ins] := by rw [hw4]; exact ((HQ3.out.far (p := ⟨g, 3, none⟩) hgq0.symm _).alloc _).drew
    have O4 : OwnB w4 base 5 (.slice (some ⟨rc, 0, none⟩) (m + k) c2) (xs ++ List.replicate k 0) := Ho2.out.fr F4 (by
      have := Ho2.out.ne_blk Hg2.out (by decide)
      simp [Value.ownBlock] at this ⊢
      exact this)
    have S4 : w4.heap.size = wc.heap.size + 1 := by rw [hw4]; simp
    rw [show ((((wc.setCell ⟨g, 3, none⟩ (.pointer (some ⟨wc.heap.size, 0, none⟩))).alloc (.cells #[.nilIface, .slice (some ⟨rc, 0, none⟩) (m + k) c2, .bool fx, .pointer none, .int .i64 m, .int .i64 k, .bool pa, .pointer (some ⟨gq, 0, none⟩)] 65)).drew)) = w4 from hw4.symm, ← hgc]
    clear hw4
    have w2le : w.heap.size ≤ w2.heap.size := HF2.out.size
    have wcle : w2.heap.size ≤ wc.heap.size := HF3.out.size
    have nggc : g ≠ gc := by omega
    have Prc : rc ∈ rb.toList ∨ w.heap.size ≤ rc := by
      rcases Hr2.out with h | ⟨q, h, hq⟩
      · left; rw [← h]; simp
      · right; injection h with h; omega
    have Prb : rb = some rc ∨ w.heap.size ≤ rc := by
      rcases Hr2.out with h | ⟨q, h, hq⟩
      · exact .inl h.symm
      · right; injection h with h; omega
    have Pgq : gq ∈ icB (.pointer pq) ∨ w.heap.size ≤ gq := by
      rcases Hic.out with h | ⟨_, h⟩
      · left; rw [h]; simp [icB]
      · exact .inr (Nat.le_trans w2le h)
    have Fw4 : Fr (g :: rb.toList) w w4 := HF2.out.trans F4 (fun i hi => by simp at hi; subst hi; exact .inl (by simp))
    obtain ⟨X, hX⟩ : ∃ X : Cx, X = ⟨base, g, gc, gq, rc, k, m, off, pl, pa, pb, ins, dep, M, xs⟩ := ⟨_, rfl⟩
    have e1 : X.g = g := by rw [hX]
    have e2 : X.gc = gc := by rw [hX]
    have Hc := Lib.hid (show Calls Try.prog 92 #[.pointer (some ⟨g, 0, none⟩), .func (.func KF) #[] #[.pointer (some ⟨p, 0, none⟩)], .pointer (some ⟨gc, 0, none⟩)] w4 (CC K X (.slice (some ⟨rc, 0, none⟩) (m + k) c2) res w4) by
      have h9 := callc K X KF p (.slice (some ⟨rc, 0, none⟩) (m + k) c2) res w4 (by rw [hX]; exact nggc) (by rw [hX]; exact C4.lt) (by rw [hX, ← Hfxd.out]; exact G4)
          (by rw [hX]; exact ⟨_, by rw [← Hfxd.out]; exact C4, O4, rfl, fun r hr => by obtain ⟨c', h1, h2⟩ := Hx2.out r hr; exact ⟨c', (congrArg (fun n => Value.slice (some ⟨rc, 0, none⟩) n c2) hl2.symm).trans h1, h2⟩⟩) (by rw [hX]; exact Q4) (by rw [hX]; exact hbq) hK
          (fun w5 fa fb C5 fl5 => by
            rw [hX] at fa fb C5 fl5 ⊢
            simp only at fa fb C5 fl5 ⊢
            have Fw5 : Fr (fS g rb (.pointer pq) false) w w5 := (Fw4.mono (S' := fS g rb (.pointer pq) false) (fun i hi => by unfold fS; simp at hi ⊢; rcases hi with h | h; exact .inl h; exact .inr (.inl h))).trans fa (fun i hi => by
              simp at hi
              subst hi
              rcases Pgq with h | h
              · left; unfold fS; simp; exact .inr (.inr h)
              · exact .inr h)
            have := Hf.out gc rc (.pointer (some ⟨gq, 0, none⟩)) w5 Fw5 (fun gq' hi hic' => by
              rcases Hic.out with h | ⟨h, _⟩
              · exact h.symm
              · rw [hi] at h; cases h) (by rw [← Hm.out]; exact C5) fl5 (Nat.le_trans hb Fw5.size) (by omega) Prb
            rw [← Hm.out] at this
            exact this)
      rw [e1, e2] at h9
      exact h9)
    have Hfa := Lib.hid (fun (w5 : World) (ev : Value) (hF : Fr X.T w4 w5) (h : CCr K X (.slice (some ⟨rc, 0, none⟩) (m + k) c2) res w4.heap.size ev w5) => show Calls Try.prog 93 #[.pointer (some ⟨g, 0, none⟩)] w5 (FF K X res w4) by
      have h9 := flush_after K X (.slice (some ⟨rc, 0, none⟩) (m + k) c2) res w4 w5 ev (by rw [hX]; exact nggc) (by rw [hX]; exact Hm.out.symm) (by rw [hX]; exact hk) (by rw [hX]; exact hk4) (by rw [hX]; exact Hpa.out) hF (by rw [hX]; exact G4.lt) (by rw [hX]; exact Q4.lt) (by rw [hX]; exact Nat.le_trans hb Fw4.size)
            (by rw [hX]; intro out ho; obtain ⟨a1, a2, a3⟩ := Hl.out out ho; simp only; rw [Hm.out]; exact ⟨a1, a2, a3⟩) (by rw [hX]; exact Hfx.out)
            (fun r hr => by obtain ⟨c', h1, h2⟩ := Hx2.out r hr; rw [hl2] at h1; exact ⟨m + k, c', by omega, h1⟩) h
      rw [e1] at h9
      exact h9)
    -- frames of the whole step
    have HT := Lib.hid (show ∀ w6, Fr X.T w4 w6 → Fr (fS g rb (.pointer pq) ins) w w6 by
      intro w6 h
      refine (Fw4.mono (S' := fS g rb (.pointer pq) ins) (fun i hi => by unfold fS; simp at hi ⊢; rcases hi with h | h; exact .inl h; exact .inr (.inl h))).trans h (fun i hi => ?_)
      rw [hX] at hi
      unfold Cx.T at hi
      simp only [List.mem_append, List.mem_cons, List.not_mem_nil, or_false] at hi
      rcases hi with (rfl | rfl | rfl) | hi
      · left; unfold fS; simp
      · right; omega
      · rcases Prc with h | h
        · left; unfold fS; simp at h ⊢; exact .inr (.inl h)
        · exact .inr h
      · cases hins : ins
        · rw [hins] at hi
          simp at hi
          subst hi
          rcases Pgq with h | h
          · left; unfold fS; simp; exact .inr (.inr h)
          · exact .inr h
        · rw [hins] at hi; simp at hi)
    have HX := Lib.hid hX
    have HC4 := Lib.hid C4
    have Hnum := Lib.hid (And.intro (show w.heap.size ≤ gc by omega) (And.intro (show g < gc by omega) (Nat.le_trans w2le (Nat.le_trans wcle (show wc.heap.size ≤ w4.heap.size by omega)))))
    have HPrb := Lib.hid Prb
    have Hbq := Lib.hid hbq
    clear e1 e2 C4 G4 Q4 O4 F4 Fw4 q1 q2 q3 q7 qf3 Prc Pgq hgq0 hgc hX Prb S4 hbq
    refine Hc.out.mono ?_
    rintro e w5 ⟨hF5, ⟨rfl, ev, hcr⟩ | ⟨hins, ⟨t, u, rfl⟩, hres, Gp, Qp, hch⟩⟩
    · have H6 := Lib.hid (Hfa.out w5 ev hF5 hcr)
      clear hF5 hcr
      go_wp2_with fail
      refine H6.out.mono ?_
      rintro e w6 ⟨rfl, f6, q6, h6⟩
      have Hf6 := Lib.hid f6
      have Hq6 := Lib.hid q6
      have H66 := Lib.hid h6
      have k3 : w6.cell? ⟨g, 3, none⟩ = some (.pointer none) := by
        have hXg : X.g = g := by rw [HX.out]
        cases hr : res.bind (flushed X.pa X.k X.xs) with
        | none =>
          rw [hr] at h6
          obtain ⟨_, _, _, _, _, _, _, _, kk⟩ := h6
          rw [hXg] at kk
          exact kk.cell 3
        | some ys =>
          rw [hr] at h6
          obtain ⟨rb6, ⟨v6, kk, _⟩, _⟩ := h6
          rw [hXg] at kk
          exact kk.cell 3
      clear f6 q6 h6
      go_wp2_with fail
      go_end0
      rw [HQ.out]
      refine ⟨HT.out _ Hf6.out, ?_⟩
      have h6 := H66.out
      have q6 := Hq6.out
      obtain ⟨n1, n2, n3⟩ := Hnum.out
      rw [HX.out] at h6 q6
      simp only at h6 q6
      cases hr : res.bind (flushed pa k xs) with
      | none =>
        rw [hr] at h6
        exact .inl ⟨rfl, h6⟩
      | some ys =>
        rw [hr] at h6
        obtain ⟨rb6, b6, hrb6⟩ := h6
        refine ⟨rfl, _, some rb6, b6, .inr ⟨gq, rfl, q6, Hbq.out⟩, ?_, ?_⟩
        · rcases hrb6 with rfl | h
          · rcases HPrb.out with h | h
            · exact .inl h.symm
            · exact .inr ⟨_, rfl, h⟩
          · exact .inr ⟨_, rfl, Nat.le_trans n3 h⟩
        · rcases Hic.out with h | ⟨h, h'⟩
          · exact .inl h.symm
          · refine .inr ⟨h, fun i hi => ?_⟩
            simp [icB] at hi
            subst hi
            exact Nat.le_trans HF2.out.size h'
    · refine ⟨rfl, ?_⟩
      rw [HQ.out]
      refine ⟨HT.out _ hF5, ?_⟩
      obtain ⟨n1, n2, n3⟩ := Hnum.out
      rw [HX.out] at hins Gp Qp hch
      simp only at hins Gp Qp hch
      obtain ⟨gs, rcc, a1, a2, a3, a4⟩ := hch
      simp only at a1 a2 a3 a4
      rw [hres]
      refine .inr ⟨hins, ⟨t, u, rfl⟩, gc :: gs, rcc, ⟨n2, _, _, m, k, pa, Gp, ?_, hk, hk4, Hpa.out, a1⟩, by rw [List.length_cons]; omega, ?_, ?_⟩
      · have h1 := Hop.out
        have h2 := Hm.out
        omega
      · intro i hi
        rw [List.mem_cons] at hi
        rcases hi with rfl | hi
        · exact n1
        · exact Nat.le_trans n3 (a3 i hi)
      · rcases a4 with h | h | ⟨q, h, hq⟩
        · exact .inl h
        · rcases HPrb.out with h' | h'
          · exact .inr (.inl (by rw [h, h']))
          · exact .inr (.inr ⟨rc, h, h'⟩)
        · exact .inr (.inr ⟨q, h, Nat.le_trans n3 hq⟩)
end Go.Proofs.Ytdnepnnkpaoaaaa
