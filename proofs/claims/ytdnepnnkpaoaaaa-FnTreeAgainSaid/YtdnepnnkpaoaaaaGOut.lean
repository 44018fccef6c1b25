/- What a step leaves of a builder: more bytes, an error, or a panic that leaves a chain of pending children; and how such a chain is flushed. -/
import Derived.Test.YtdnepnnkpaoaaaaGCont
namespace Go.Proofs.Ytdnepnnkpaoaaaa
open Go.RowKit
set_option linter.unusedVariables false

/-- The blocks of a builder's flag. -/
def icB : Value → List Nat
  | .pointer (some a) => [a.block]
  | _ => []
/-- The flag of a builder: none yet, not set, or (within a continuation) set. -/
def Flag (w : World) (base : Nat) (ic : Value) (ins : Bool) : Prop :=
  (ins = false ∧ ic = .pointer none) ∨ ∃ gq, ic = .pointer (some ⟨gq, 0, none⟩) ∧ Blk w gq 4 #[.bool ins] ∧ base ≤ gq
/-- The blocks that a step may turn. -/
def fS (g : Nat) (rb : Option Nat) (ic : Value) (ins : Bool) : List Nat := g :: (rb.toList ++ (if ins then [] else icB ic))

/-- A builder, and the pending children behind it, the last one without a child. -/
def Chn (K : Kd) (base : Nat) (w : World) : List Nat → Nat → Nat → Nat → Bool → Option Nat → Nat → Prop
  | [], g, off, pl, pa, rc, M => (Bad w g ∧ rc = none) ∨ ∃ xs ic, Bld K w base g xs off pl pa ic rc ∧ off + pl ≤ xs.length ∧ xs.length ≤ M
  | gc :: gs, g, off, pl, pa, rc, M => g < gc ∧ ∃ (vp ic : Value) (o k : Nat) (pa' : Bool), Blk w g 65 (pCs .nilIface K.fix.isSome vp gc off pl pa ic) ∧ off + pl ≤ o ∧ 0 < k ∧ k ≤ 4 ∧ (pa' = true → k = 1) ∧ Chn K base w gs gc o k pa' rc M

theorem Bad.fr {S : List Nat} {w w' : World} {g : Nat} (h : Bad w g) (hf : Fr S w w') (hg : g ∉ S) : Bad w' g := by
  obtain ⟨t, u, v1, v2, v4, v5, v6, v7, k⟩ := h
  exact ⟨t, u, v1, v2, v4, v5, v6, v7, hf.blk k hg⟩
theorem Bad.lt {w : World} {g : Nat} (h : Bad w g) : g < w.heap.size := by
  obtain ⟨t, u, v1, v2, v4, v5, v6, v7, k⟩ := h
  exact k.lt
theorem Bld.lt {K : Kd} {w : World} {base g : Nat} {xs : List Int} {off pl : Int} {pa : Bool} {ic : Value} {rb : Option Nat} (h : Bld K w base g xs off pl pa ic rb) : g < w.heap.size := by
  obtain ⟨v, k, _⟩ := h
  exact k.lt
theorem Bld.row {K : Kd} {w : World} {base g : Nat} {xs : List Int} {off pl : Int} {pa : Bool} {ic : Value} {rb : Option Nat} (h : Bld K w base g xs off pl pa ic rb) : ∀ k, rb = some k → base ≤ k ∧ k < w.heap.size := by
  obtain ⟨v, k, o, hv, _⟩ := h
  intro q hq
  exact o.lt q (by rw [hv, hq])
theorem Bld.row_ne {K : Kd} {w : World} {base g g' : Nat} {xs : List Int} {off pl : Int} {pa : Bool} {ic : Value} {rb : Option Nat} {t : TypeId} {cs : Array Value} (h : Bld K w base g xs off pl pa ic rb) (hb : Blk w g' t cs) (ht : 5 ≠ t) : rb ≠ some g' := by
  obtain ⟨v, k, o, hv, _⟩ := h
  rw [← hv]
  exact o.ne_blk hb ht
theorem Bld.some_row {K : Kd} {w : World} {base g : Nat} {xs : List Int} {off pl : Int} {pa : Bool} {ic : Value} {rb : Option Nat} (h : Bld K w base g xs off pl pa ic rb) (hn : 0 < xs.length) : ∃ r, rb = some r := by
  obtain ⟨v, k, o, hv, _⟩ := h
  rcases o.2 with ⟨_, h0⟩ | ⟨g', cap, cur, h, _⟩
  · omega
  · exact ⟨g', by rw [← hv, h]; rfl⟩
theorem Bld.blk {K : Kd} {w : World} {base g : Nat} {xs : List Int} {off pl : Int} {pa : Bool} {ic : Value} {rb : Option Nat} (h : Bld K w base g xs off pl pa ic rb) : ∃ cs, Blk w g 65 cs := by
  obtain ⟨v, k, _⟩ := h
  exact ⟨_, k⟩
/-- Two blocks of other types are two. -/
theorem Blk.ne {w : World} {g g' : Nat} {t t' : TypeId} {cs cs' : Array Value} (h : Blk w g t cs) (h' : Blk w g' t' cs') (ht : t ≠ t') : g ≠ g' := by
  rintro rfl
  unfold Blk at h h'
  rw [h] at h'
  injection h' with h'
  injection h' with _ h2
  exact ht h2

theorem Chn.fr {K : Kd} {base : Nat} {S : List Nat} {w w' : World} (hf : Fr S w w') : ∀ (gs : List Nat) (g off pl : Nat) (pa : Bool) (rc : Option Nat) (M : Nat), Chn K base w gs g off pl pa rc M → (∀ i ∈ g :: gs, i ∉ S) → (∀ k, rc = some k → k ∉ S) → Chn K base w' gs g off pl pa rc M
  | [], g, off, pl, pa, rc, M, h, hg, hr => by
    rcases h with ⟨h, h0⟩ | ⟨xs, ic, h, h1, h2⟩
    · exact .inl ⟨h.fr hf (hg g (by simp)), h0⟩
    · exact .inr ⟨xs, ic, h.fr hf (hg g (by simp)) hr, h1, h2⟩
  | gc :: gs, g, off, pl, pa, rc, M, h, hg, hr => by
    obtain ⟨h1, vp, ic, o, k, pa', h2, h3, h4, h5, h6, h7⟩ := h
    exact ⟨h1, vp, ic, o, k, pa', hf.blk h2 (hg g (by simp)), h3, h4, h5, h6, Chn.fr hf gs gc o k pa' rc M h7 (fun i hi => hg i (List.mem_cons_of_mem _ hi)) hr⟩
theorem Chn.head {K : Kd} {base : Nat} {w : World} : ∀ (gs : List Nat) (g off pl : Nat) (pa : Bool) (rc : Option Nat) (M : Nat), Chn K base w gs g off pl pa rc M → ∃ cs, Blk w g 65 cs
  | [], g, off, pl, pa, rc, M, h => by
    rcases h with ⟨⟨t, u, v1, v2, v4, v5, v6, v7, k⟩, _⟩ | ⟨xs, ic, h, _⟩
    · exact ⟨_, k⟩
    · exact h.blk
  | gc :: gs, g, off, pl, pa, rc, M, h => by
    obtain ⟨h1, vp, ic, o, k, pa', h2, _⟩ := h
    exact ⟨_, h2⟩
theorem Chn.up {K : Kd} {base : Nat} {w : World} : ∀ (gs : List Nat) (g off pl : Nat) (pa : Bool) (rc : Option Nat) (M : Nat), Chn K base w gs g off pl pa rc M → ∀ i ∈ gs, g < i
  | [], g, off, pl, pa, rc, M, h => by simp
  | gc :: gs, g, off, pl, pa, rc, M, h => by
    obtain ⟨h1, vp, ic, o, k, pa', h2, h3, h4, h5, h6, h7⟩ := h
    intro i hi
    rw [List.mem_cons] at hi
    rcases hi with rfl | hi
    · exact h1
    · exact Nat.lt_trans h1 (Chn.up gs gc o k pa' rc M h7 i hi)
theorem extraB_le (n : Nat) : extraB n ≤ 3 := by
  unfold extraB lenB
  repeat' split
  all_goals omega
theorem flushed_len {pa : Bool} {k : Nat} {pre body ys : List Int} (h : flushed pa k pre body = some ys) (hk : pa = true → k = 1) : ys.length = pre.length + (k + body.length) + (if pa then extraB body.length else 0) := by
  unfold flushed at h
  cases pa
  · simp only [Bool.false_eq_true, if_false] at h ⊢
    split at h
    · injection h with h; subst h; simp [bigB_len]
    · cases h
  · simp only [if_true] at h ⊢
    injection h with h; subst h; rw [hk rfl]
    simp [derLen_len]; omega

theorem OwnB.rowBlk {w : World} {base e : Nat} {v : Value} {xs : List Int} (h : OwnB w base e v xs) {k : Nat} (hk : v.ownBlock = some k) : ∃ cs, Blk w k e cs := by
  rcases h.2 with ⟨rfl, _⟩ | ⟨g', cap, cur, rfl, _, hh, _⟩
  · simp [Value.ownBlock] at hk
  · have : g' = k := by simpa [Value.ownBlock] using hk
    subst this
    exact ⟨cur, hh⟩
theorem Chn.rc {K : Kd} {base : Nat} {w : World} : ∀ (gs : List Nat) (g off pl : Nat) (pa : Bool) (rc : Option Nat) (M : Nat), Chn K base w gs g off pl pa rc M → ∀ k, rc = some k → ∃ cs, Blk w k 5 cs
  | [], g, off, pl, pa, rc, M, h, k, hk => by
    rcases h with ⟨_, h⟩ | ⟨xs, ic, ⟨v, _, ho, hv, _⟩, _⟩
    · rw [h] at hk; cases hk
    · exact ho.rowBlk (by rw [hv, hk])
  | gc :: gs, g, off, pl, pa, rc, M, h, k, hk => by
    obtain ⟨_, _, _, _, _, _, _, _, _, _, _, h⟩ := h
    exact Chn.rc gs _ _ _ _ rc M h k hk

/-- How a chain is flushed: behind it the builder has no child, and an error or bytes. -/
def FlushChn (K : Kd) (base : Nat) (gs : List Nat) (g off pl : Nat) (pa : Bool) (rc : Option Nat) (M : Nat) (w : World) (e : Ending) (w' : World) : Prop :=
  e = .returned (.tuple #[]) ∧ ∃ rc', Chn K base w' [] g off pl pa rc' (M + 4 * gs.length) ∧ Fr (g :: (gs ++ rc.toList)) w w' ∧ (rc' = none ∨ rc' = rc ∨ ∃ k, rc' = some k ∧ w.heap.size ≤ k)

/-- What the flush of a child's chain leaves of the child. -/
def JBc (gs : List Nat) (gc : Nat) (rc : Option Nat) (w w1 : World) : Prop := Bad w1 gc ∧ Fr (gc :: (gs ++ rc.toList)) w w1
def Jc (K : Kd) (base : Nat) (gs : List Nat) (gc o k : Nat) (pa' : Bool) (rc : Option Nat) (M : Nat) (w w1 : World) (pre Z body : List Int) (r : Nat) : Prop :=
  (∃ ic, Bld K w1 base gc (pre ++ (Z ++ body)) o k pa' ic (some r)) ∧ pre.length = o ∧ Z.length = k ∧ o + (k + body.length) ≤ M + 4 * gs.length ∧ Fr (gc :: (gs ++ rc.toList)) w w1 ∧ (some r = rc ∨ w.heap.size ≤ r)
theorem jc_of {K : Kd} {base : Nat} {gs : List Nat} {gc o k : Nat} {pa' : Bool} {rc : Option Nat} {M : Nat} {w : World} (hk0 : 0 < k) {e : Ending} {w1 : World} (h : FlushChn K base gs gc o k pa' rc M w e w1) :
    e = .returned (.tuple #[]) ∧ (JBc gs gc rc w w1 ∨ ∃ pre Z body r, Jc K base gs gc o k pa' rc M w w1 pre Z body r) := by
  obtain ⟨rfl, rc', h, hf, hr⟩ := h
  refine ⟨rfl, ?_⟩
  rcases h with ⟨h, _⟩ | ⟨xs, ic, h, h1, h2⟩
  · exact .inl ⟨h, hf⟩
  · obtain ⟨r, rfl⟩ := h.some_row (by omega)
    have e1 : xs = xs.take o ++ ((xs.drop o).take k ++ (xs.drop o).drop k) := by rw [List.take_append_drop, List.take_append_drop]
    refine .inr ⟨xs.take o, (xs.drop o).take k, (xs.drop o).drop k, r, ⟨ic, by rw [← e1]; exact h⟩, by simp; omega, by simp; omega, by simp; omega, hf, ?_⟩
    rcases hr with h | h | ⟨q, h, hq⟩
    · cases h
    · exact .inl h
    · injection h with h; exact .inr (by omega)

theorem flush_chn (K : Kd) (base : Nat) (hfx : K.fix = none) (M : Nat) : ∀ (gs : List Nat) (g off pl : Nat) (pa : Bool) (rc : Option Nat) (w : World), Chn K base w gs g off pl pa rc M → base ≤ w.heap.size → M + 4 * gs.length ≤ 16000000 → 16000000 ≤ K.lim →
    Calls Try.prog 93 #[.pointer (some ⟨g, 0, none⟩)] w (FlushChn K base gs g off pl pa rc M w)
  | [], g, off, pl, pa, rc, w, h, hb, hM, hl => by
    have c3 : w.cell? ⟨g, 3, none⟩ = some (.pointer none) := by
      rcases h with ⟨⟨t, u, v1, v2, v4, v5, v6, v7, k⟩, _⟩ | ⟨xs, ic, ⟨v, k, _⟩, _⟩
      · exact k.cell 3
      · exact k.cell 3
    refine (flush_none g w c3).mono ?_
    rintro e w' ⟨rfl, rfl⟩
    exact ⟨rfl, rc, h, Fr.refl _ _, .inr (.inl rfl)⟩
  | gc :: gs, g, off, pl, pa, rc, w, h, hb, hM, hl => by
    have hrcb := Chn.rc (gc :: gs) g off pl pa rc M h
    obtain ⟨h1, vp, ic, o, k, pa', h2, h3, h4, h5, h6, h7⟩ := h
    have hM' : M + 4 * gs.length + 4 ≤ 16000000 := by rw [List.length_cons] at hM; omega
    have ih := flush_chn K base hfx M gs gc o k pa' rc w h7 hb (by omega) hl
    have hup := Chn.up gs gc o k pa' rc M h7
    have hgT : g ∉ gc :: (gs ++ rc.toList) := by
      intro hi
      rw [List.mem_cons, List.mem_append] at hi
      rcases hi with hi | hi | hi
      · omega
      · have := hup g hi; omega
      · have hi' : rc = some g := by cases rc with
          | none => simp at hi
          | some q => simp at hi; rw [hi]
        obtain ⟨cs, hcs⟩ := hrcb g hi'
        exact Blk.ne hcs h2 (by decide) rfl
    refine (flush_gen K base g gc k o off pl pa' pa .nilIface vp ic (JBc gs gc rc w) (Jc K base gs gc o k pa' rc M w) w (by omega) h4 h5 h6 (h2.cell 3) (ih.mono fun e w1 h => jc_of h4 h) ?_ ?_).mono ?_
    · rintro w1 ⟨h, hf⟩
      exact ⟨hf.blk h2 hgT, h⟩
    · rintro w1 pre Z body r ⟨hb1, hp, hz, hlen, hf, _⟩
      have := extraB_le body.length
      refine ⟨hf.blk h2 hgT, hb1, hp, hz, by omega, fun hp => by have := h6 hp; omega, by omega, Nat.le_trans hb hf.size, fun r hr => by rw [hfx] at hr; cases hr⟩
    · rintro e w' ⟨rfl, w1, h | h⟩
      · obtain ⟨⟨hbad, hf⟩, hb', hf'⟩ := h
        refine ⟨rfl, none, .inl ⟨hb', rfl⟩, (hf.mono (S' := g :: (gc :: gs ++ rc.toList)) (fun i hi => List.mem_cons_of_mem _ hi)).trans hf' (fun i hi => by simp at hi; subst hi; exact .inl (by simp)), .inl rfl⟩
      · obtain ⟨pre, Z, body, r, ⟨hb1, hp, hz, hlen, hf, hr⟩, hf', hres⟩ := h
        have hF : Fr (g :: (gc :: gs ++ rc.toList)) w w' := (hf.mono (S' := g :: (gc :: gs ++ rc.toList)) (fun i hi => List.mem_cons_of_mem _ hi)).trans hf' (fun i hi => by
          simp only [List.mem_cons, List.not_mem_nil, or_false] at hi
          rcases hi with rfl | rfl | rfl
          · exact .inl (by simp)
          · exact .inl (by simp)
          · rcases hr with h | h
            · left; rw [← h]; simp
            · exact .inr h)
        cases hfl : flushed pa' k pre body with
        | none =>
          rw [hfl] at hres
          exact ⟨rfl, none, .inl ⟨hres, rfl⟩, hF, .inl rfl⟩
        | some ys =>
          rw [hfl] at hres
          obtain ⟨rb, hbe, hrb⟩ := hres
          have hyl := flushed_len hfl h6
          have hex := extraB_le body.length
          refine ⟨rfl, some rb, .inr ⟨ys, ic, hbe, by omega, ?_⟩, hF, ?_⟩
          · rw [List.length_cons]
            split at hyl <;> omega
          · right
            rcases hrb with rfl | h
            · rcases hr with h | h
              · exact .inl h
              · exact .inr ⟨_, rfl, h⟩
            · exact .inr ⟨_, rfl, Nat.le_trans hf.size h⟩

/-- What a step leaves: more bytes; or, where it fails, an error, or (within a continuation) a panic that leaves a chain of pending children. -/
def Outc (K : Kd) (base g off pl : Nat) (pb : Bool) (ic : Value) (rb : Option Nat) (ins : Bool) (dep M : Nat) (w : World) (res : Option (List Int)) (e : Ending) (w' : World) : Prop :=
  Fr (fS g rb ic ins) w w' ∧
  match res with
  | some ys => e = .returned (.tuple #[]) ∧ ∃ ic' rb', Bld K w' base g ys off pl pb ic' rb' ∧ Flag w' base ic' ins ∧ (rb' = rb ∨ ∃ k, rb' = some k ∧ w.heap.size ≤ k) ∧ (ic' = ic ∨ (ins = false ∧ ∀ i ∈ icB ic', w.heap.size ≤ i))
  | none => (e = .returned (.tuple #[]) ∧ Bad w' g) ∨ (ins = true ∧ Panics e ∧ ∃ gs rc, Chn K base w' gs g off pl pb rc M ∧ gs.length ≤ dep ∧ (∀ i ∈ gs, w.heap.size ≤ i) ∧ (rc = none ∨ rc = rb ∨ ∃ k, rc = some k ∧ w.heap.size ≤ k))

theorem fS_sub {g : Nat} {rb rb' : Option Nat} {ic ic' : Value} {ins : Bool} {n : Nat} (hr : rb' = rb ∨ ∃ k, rb' = some k ∧ n ≤ k) (hi : ic' = ic ∨ (ins = false ∧ ∀ i ∈ icB ic', n ≤ i)) : ∀ i ∈ fS g rb' ic' ins, i ∈ fS g rb ic ins ∨ n ≤ i := by
  intro i h
  unfold fS at h ⊢
  simp only [List.mem_cons, List.mem_append] at h ⊢
  rcases h with rfl | h | h
  · exact .inl (.inl rfl)
  · rcases hr with rfl | ⟨k, rfl, hk⟩
    · exact .inl (.inr (.inl h))
    · simp at h; subst h; exact .inr hk
  · rcases hi with rfl | ⟨rfl, hi⟩
    · exact .inl (.inr (.inr h))
    · exact .inr (hi i (by simpa using h))
/-- A step behind others. -/
theorem Outc.after {K : Kd} {base g off pl : Nat} {pb : Bool} {ic ic1 : Value} {rb rb1 : Option Nat} {ins : Bool} {dep M : Nat} {w w1 : World} {res : Option (List Int)} {e : Ending} {w' : World}
    (hf : Fr (fS g rb ic ins) w w1) (hr : rb1 = rb ∨ ∃ k, rb1 = some k ∧ w.heap.size ≤ k) (hi : ic1 = ic ∨ (ins = false ∧ ∀ i ∈ icB ic1, w.heap.size ≤ i)) (h : Outc K base g off pl pb ic1 rb1 ins dep M w1 res e w') : Outc K base g off pl pb ic rb ins dep M w res e w' := by
  obtain ⟨h1, h2⟩ := h
  have hs := hf.size
  refine ⟨hf.trans h1 (fS_sub hr hi), ?_⟩
  have hr' : ∀ rb2 : Option Nat, (rb2 = rb1 ∨ ∃ k, rb2 = some k ∧ w1.heap.size ≤ k) → rb2 = rb ∨ ∃ k, rb2 = some k ∧ w.heap.size ≤ k := by
    rintro rb2 (rfl | ⟨k, rfl, hk⟩)
    · exact hr
    · exact .inr ⟨k, rfl, Nat.le_trans hs hk⟩
  cases res with
  | some ys =>
    obtain ⟨he, ic', rb', a1, a2, a3, a4⟩ := h2
    refine ⟨he, ic', rb', a1, a2, hr' _ a3, ?_⟩
    rcases a4 with rfl | ⟨h, a4⟩
    · exact hi
    · exact .inr ⟨h, fun i hi => Nat.le_trans hs (a4 i hi)⟩
  | none =>
    rcases h2 with h2 | ⟨hi', hp, gs, rc, a1, a2, a3, a4⟩
    · exact .inl h2
    · refine .inr ⟨hi', hp, gs, rc, a1, a2, fun i hi => Nat.le_trans hs (a3 i hi), ?_⟩
      rcases a4 with h | h
      · exact .inl h
      · exact .inr (hr' _ h)
end Go.Proofs.Ytdnepnnkpaoaaaa
