/- callContinuation and the flush behind it, whatever the continuation's outcome: plain lemmas, no walk. -/
import Derived.Test.YtdnepnnkpaoaaaaGOut
namespace Go.Proofs.Ytdnepnnkpaoaaaa
open Go.RowKit
set_option linter.unusedVariables false

/-- The numbers of a step with a continuation. -/
structure Cx where
  base : Nat
  g : Nat
  gc : Nat
  gq : Nat
  rc : Nat
  k : Nat
  m : Nat
  off : Nat
  pl : Nat
  pa : Bool
  pb : Bool
  ins : Bool
  dep : Nat
  M : Nat
  xs : List Int
/-- The blocks that the continuation may turn. -/
def Cx.T (X : Cx) : List Nat := [X.g, X.gc, X.rc] ++ (if X.ins then [] else [X.gq])
abbrev Cx.ic (X : Cx) : Value := .pointer (some ⟨X.gq, 0, none⟩)
def ChnAt (K : Kd) (X : Cx) (n : Nat) (w5 : World) : Prop := ∃ gs rcc, Chn K X.base w5 gs X.gc X.m X.k X.pa rcc X.M ∧ gs.length ≤ X.dep ∧ (∀ i ∈ gs, n ≤ i) ∧ (rcc = none ∨ rcc = some X.rc ∨ ∃ k, rcc = some k ∧ n ≤ k)
/-- The state behind a continuation that has come back. -/
def CCr (K : Kd) (X : Cx) (v : Value) (res : Option (List Int)) (n : Nat) (ev : Value) (w5 : World) : Prop :=
  Blk w5 X.g 65 (pCs ev K.fix.isSome v X.gc X.off X.pl X.pb X.ic) ∧ Blk w5 X.gq 4 #[.bool X.ins] ∧
    match res with
    | some out => ev = .nilIface ∧ ∃ rc', Bld K w5 X.base X.gc (X.xs ++ (List.replicate X.k 0 ++ out)) X.m X.k X.pa X.ic (some rc') ∧ (rc' = X.rc ∨ n ≤ rc')
    | none => (ev = .nilIface ∧ Bad w5 X.gc) ∨ (X.ins = false ∧ (∃ t u, ev = .iface t u) ∧ ChnAt K X n w5)
def CC (K : Kd) (X : Cx) (v : Value) (res : Option (List Int)) (w4 : World) (e : Ending) (w5 : World) : Prop :=
  Fr X.T w4 w5 ∧ ((e = .returned (.tuple #[]) ∧ ∃ ev, CCr K X v res w4.heap.size ev w5) ∨
    (X.ins = true ∧ Panics e ∧ res = none ∧ Blk w5 X.g 65 (pCs .nilIface K.fix.isSome v X.gc X.off X.pl X.pb X.ic) ∧ Blk w5 X.gq 4 #[.bool X.ins] ∧ ChnAt K X w4.heap.size w5))

/-- The outcome of the continuation, on its own builder. -/
abbrev KOut (K : Kd) (X : Cx) (res : Option (List Int)) (w1 : World) : Ending → World → Prop := Outc K X.base X.gc X.m X.k X.pa X.ic (some X.rc) true X.dep X.M w1 (res.map fun out => X.xs ++ (List.replicate X.k 0 ++ out))

theorem callc (K : Kd) (X : Cx) (KF p : Nat) (v : Value) (res : Option (List Int)) (w4 : World)
    (hgc : X.g ≠ X.gc) (hgl : X.gc < w4.heap.size)
    (G4 : Blk w4 X.g 65 (pCs .nilIface K.fix.isSome v X.gc X.off X.pl X.pb X.ic)) (C4 : Bld K w4 X.base X.gc (X.xs ++ List.replicate X.k 0) X.m X.k X.pa X.ic (some X.rc)) (Q4 : Blk w4 X.gq 4 #[.bool X.ins]) (hbq : X.base ≤ X.gq)
    (hK : ∀ args W, (callFunc KF args).run Try.prog W = .ok (.enter KF args) W)
    (hf : ∀ w1, Fr [X.gq] w4 w1 → (X.ins = true → Fr [] w4 w1) → Bld K w1 X.base X.gc (X.xs ++ List.replicate X.k 0) X.m X.k X.pa X.ic (some X.rc) → Flag w1 X.base X.ic true →
      Calls Try.prog KF #[.pointer (some ⟨X.gc, 0, none⟩), .pointer (some ⟨p, 0, none⟩)] w1 (KOut K X res w1)) :
    Calls Try.prog 92 #[.pointer (some ⟨X.g, 0, none⟩), .func (.func KF) #[] #[.pointer (some ⟨p, 0, none⟩)], .pointer (some ⟨X.gc, 0, none⟩)] w4 (CC K X v res w4) := by
  obtain ⟨csc, C4b⟩ := C4.blk
  have hgq : X.g ≠ X.gq := Blk.ne G4 Q4 (by decide)
  have hcq : X.gc ≠ X.gq := Blk.ne C4b Q4 (by decide)
  have hrq : X.rc ≠ X.gq := fun e => C4.row_ne Q4 (by decide) (by rw [e])
  have hrg : X.rc ≠ X.g := fun e => C4.row_ne G4 (by decide) (by rw [e])
  have hrc : X.rc ≠ X.gc := fun e => C4.row_ne C4b (by decide) (by rw [e])
  have hrl := (C4.row X.rc rfl).2
  have hT : ∀ w1 w2, Fr [X.gc, X.rc] w1 w2 → Fr X.T w1 w2 := fun w1 w2 h => h.mono (fun i hi => by unfold Cx.T; simp at hi ⊢; rcases hi with rfl | rfl <;> simp)
  cases hins : X.ins
  · -- the flag is not set
    have fq : ∀ w1 w2 : World, Fr [X.gq] w1 w2 → Fr X.T w1 w2 := fun w1 w2 h => h.mono (fun i hi => by unfold Cx.T; simp at hi ⊢; subst hi; simp [hins])
    refine (cont_first X.g X.gq X.gc KF p (fun w1 w2 => Fr [X.gc, X.rc] w1 w2 ∧ (match res with
        | some out => ∃ rc', Bld K w2 X.base X.gc (X.xs ++ (List.replicate X.k 0 ++ out)) X.m X.k X.pa X.ic (some rc') ∧ (rc' = X.rc ∨ w4.heap.size ≤ rc')
        | none => Bad w2 X.gc))
      (fun w1 w2 => Fr [X.gc, X.rc] w1 w2 ∧ res = none ∧ ChnAt K X w4.heap.size w2) w4 (G4.cell 7) hgq (by rw [← hins]; exact Q4) hK ?_ ?_).mono ?_
    · intro w1 f1 l1 q1
      have Cb := C4.fr f1 (by simpa using hcq) (by intro k hk; injection hk with hk; subst hk; simpa using hrq)
      refine (hf w1 f1 (fun h => by rw [hins] at h; cases h) Cb (.inr ⟨X.gq, rfl, q1, hbq⟩)).mono ?_
      rintro e w2 ⟨h1, h2⟩
      have h1' : Fr [X.gc, X.rc] w1 w2 := by simpa [fS] using h1
      have hsz := f1.size
      cases res with
      | some out =>
        obtain ⟨he, ic', rb', a1, a2, a3, a4⟩ := h2
        left
        have hic : ic' = X.ic := by
          rcases a4 with h | ⟨h, _⟩
          · exact h
          · cases h
        subst hic
        refine ⟨he, h1', ?_⟩
        rcases a3 with rfl | ⟨k, rfl, hk⟩
        · exact ⟨X.rc, a1, .inl rfl⟩
        · exact ⟨k, a1, .inr (by omega)⟩
      | none =>
        rcases h2 with ⟨he, hb⟩ | ⟨_, hp, gs, rcc, a1, a2, a3, a4⟩
        · exact .inl ⟨he, h1', hb⟩
        · refine .inr ⟨hp, h1', rfl, gs, rcc, a1, a2, fun i hi => Nat.le_trans hsz (a3 i hi), ?_⟩
          rcases a4 with h | h | ⟨k, h, hk⟩
          · exact .inl h
          · exact .inr (.inl h)
          · exact .inr (.inr ⟨k, h, by omega⟩)
    · intro w1 w2 f1 l1 q1 hq
      have f12 : Fr [X.gc, X.rc] w1 w2 := hq.elim (·.1) (·.1)
      have Gb := f12.blk (f1.blk G4 (by simpa using hgq)) (by simp; exact ⟨hgc, hrg.symm⟩)
      exact ⟨Gb.cell 7, f12.blk q1 (by simp; exact ⟨hcq.symm, hrq.symm⟩), World.cell?_of_block (w := w1) (f12.block _ l1 (by simp; exact ⟨by omega, by omega⟩)), ⟨_, Gb.cell 0⟩, Gb.frozen 0, f12.size⟩
    · rintro e w5 ⟨rfl, w1, w2, f1, l1, q1, q2, h⟩
      rcases h with ⟨⟨f12, h⟩, rfl⟩ | ⟨⟨f12, hres, h⟩, t, u, cs, rfl⟩
      · have Gb := f12.blk (f1.blk G4 (by simpa using hgq)) (by simp; exact ⟨hgc, hrg.symm⟩)
        have f5 : Fr [X.gq] w2 (w2.setCell ⟨X.gq, 0, none⟩ (.bool false)) := (Fr.refl [X.gq] w2).set_ (.inl (by simp)) _
        refine ⟨((fq _ _ f1).trans (hT _ _ f12) (fun i hi => .inl hi)).trans (fq _ _ f5) (fun i hi => .inl hi), .inl ⟨rfl, .nilIface, f5.blk Gb (by simpa using hgq), by rw [hins]; exact q2.set_ 0 _, ?_⟩⟩
        cases res with
        | some out =>
          obtain ⟨rc', a1, a2⟩ := h
          refine ⟨rfl, rc', a1.fr f5 (by simpa using hcq) ?_, a2⟩
          intro k hk hi
          injection hk with hk
          subst hk
          simp at hi
          subst hi
          exact a1.row_ne q2 (by decide) rfl
        | none => exact .inl ⟨rfl, h.fr f5 (by simpa using hcq)⟩
      · subst hres
        have Gb := f12.blk (f1.blk G4 (by simpa using hgq)) (by simp; exact ⟨hgc, hrg.symm⟩)
        have f5 : Fr [X.gq, X.g] w2 (((w2.setCell ⟨X.gq, 0, none⟩ (.bool false)).setCell ⟨X.g, 0, none⟩ (.iface t u)).alloc (.cells cs 118)) := (((Fr.refl [X.gq, X.g] w2).set_ (.inl (by simp)) _).set_ (.inl (by simp)) _).alloc _
        have f5' : Fr X.T w2 (((w2.setCell ⟨X.gq, 0, none⟩ (.bool false)).setCell ⟨X.g, 0, none⟩ (.iface t u)).alloc (.cells cs 118)) := f5.mono (fun i hi => by unfold Cx.T; simp at hi ⊢; rcases hi with rfl | rfl <;> simp [hins])
        refine ⟨((fq _ _ f1).trans (hT _ _ f12) (fun i hi => .inl hi)).trans f5' (fun i hi => .inl hi), .inl ⟨rfl, .iface t u, (((Gb.far (p := ⟨X.gq, 0, none⟩) hgq _).set_ 0 _).alloc _), by rw [hins]; exact ((q2.set_ 0 _).far (p := ⟨X.g, 0, none⟩) hgq.symm _).alloc _, ?_⟩⟩
        obtain ⟨gs, rcc, a1, a2, a3, a4⟩ := h
        refine .inr ⟨hins, ⟨t, u, rfl⟩, gs, rcc, Chn.fr f5 gs X.gc X.m X.k X.pa rcc X.M a1 ?_ ?_, a2, a3, a4⟩
        · intro i hi hi'
          have hup := Chn.up gs X.gc X.m X.k X.pa rcc X.M a1
          have gl := G4.lt
          have ql := Q4.lt
          simp at hi hi'
          rcases hi with rfl | hi
          · rcases hi' with h | h
            · exact hcq h
            · exact hgc h.symm
          · have := a3 i hi
            rcases hi' with h | h <;> omega
        · intro k hk hi
          obtain ⟨cs', hcs⟩ := Chn.rc gs X.gc X.m X.k X.pa rcc X.M a1 k hk
          simp at hi
          rcases hi with rfl | rfl
          · exact Blk.ne hcs q2 (by decide) rfl
          · exact Blk.ne hcs Gb (by decide) rfl
  · -- the flag is set
    refine (cont_in X.g X.gq X.gc KF p (CC K X v res w4) w4 (G4.cell 7) (by rw [← hins]; exact Q4) hK ?_)
    intro w1 f1
    have Cb := C4.keep f1
    have Gb := f1.blk G4 (by simp)
    have Qb := f1.blk Q4 (by simp)
    refine (hf w1 (f1.mono (by simp)) (fun _ => f1) Cb (.inr ⟨X.gq, rfl, by rw [← hins]; exact Qb, hbq⟩)).mono ?_
    rintro e w2 ⟨h1, h2⟩
    have h1' : Fr [X.gc, X.rc] w1 w2 := by simpa [fS] using h1
    have hsz := f1.size
    have hF : Fr X.T w4 w2 := (f1.mono (S' := X.T) (by simp)).trans (hT _ _ h1') (fun i hi => .inl hi)
    have Gw := h1'.blk Gb (by simp; exact ⟨hgc, hrg.symm⟩)
    have Qw := h1'.blk Qb (by simp; exact ⟨hcq.symm, hrq.symm⟩)
    cases res with
    | some out =>
      obtain ⟨he, ic', rb', a1, a2, a3, a4⟩ := h2
      have hic : ic' = X.ic := by
        rcases a4 with h | ⟨h, _⟩
        · exact h
        · cases h
      subst hic
      refine .inl ⟨he, hF, .inl ⟨he, .nilIface, Gw, Qw, rfl, ?_⟩⟩
      rcases a3 with rfl | ⟨k, rfl, hk⟩
      · exact ⟨X.rc, a1, .inl rfl⟩
      · exact ⟨k, a1, .inr (by omega)⟩
    | none =>
      rcases h2 with ⟨he, hb⟩ | ⟨_, hp, gs, rcc, a1, a2, a3, a4⟩
      · exact .inl ⟨he, hF, .inl ⟨he, .nilIface, Gw, Qw, .inl ⟨rfl, hb⟩⟩⟩
      · refine .inr ⟨hp, hF, .inr ⟨hins, hp, rfl, Gw, Qw, gs, rcc, a1, a2, fun i hi => Nat.le_trans hsz (a3 i hi), ?_⟩⟩
        rcases a4 with h | h | ⟨k, h, hk⟩
        · exact .inl h
        · exact .inr (.inl h)
        · exact .inr (.inr ⟨k, h, by omega⟩)

/-- What the flush behind the continuation leaves. -/
def FF (K : Kd) (X : Cx) (res : Option (List Int)) (w4 : World) (e : Ending) (w6 : World) : Prop :=
  e = .returned (.tuple #[]) ∧ Fr X.T w4 w6 ∧ Blk w6 X.gq 4 #[.bool X.ins] ∧
    match res.bind (flushed X.pa X.k X.xs) with
    | some ys => ∃ rb, Bld K w6 X.base X.g ys X.off X.pl X.pb X.ic (some rb) ∧ (rb = X.rc ∨ w4.heap.size ≤ rb)
    | none => Bad w6 X.g

theorem flush_after (K : Kd) (X : Cx) (v : Value) (res : Option (List Int)) (w4 w5 : World) (ev : Value) (hgc : X.g ≠ X.gc) (hm : X.xs.length = X.m) (hk0 : 0 < X.k) (hk4 : X.k ≤ 4) (hpa : X.pa = true → X.k = 1) (hF : Fr X.T w4 w5) (hgl : X.g < w4.heap.size) (hql : X.gq < w4.heap.size) (hb : X.base ≤ w4.heap.size)
    (hl : ∀ out, res = some out → X.m + (X.k + out.length) ≤ K.lim ∧ (X.pa = true → X.m + (1 + extraB out.length + out.length) ≤ K.lim) ∧ out.length ≤ 16777215)
    (hfx : res = none → K.fix = none ∧ X.M + 4 * (X.dep + 1) ≤ 16000000 ∧ 16000000 ≤ K.lim)
    (hvp : ∀ r, K.fix = some r → ∃ n c, 0 < n ∧ v = .slice (some ⟨r, 0, none⟩) n c)
    (h : CCr K X v res w4.heap.size ev w5) :
    Calls Try.prog 93 #[.pointer (some ⟨X.g, 0, none⟩)] w5 (FF K X res w4) := by
  obtain ⟨G5, Q5, h⟩ := h
  have hb5 := Nat.le_trans hb hF.size
  have hgq : X.g ≠ X.gq := Blk.ne G5 Q5 (by decide)
  -- how a frame of the flush goes on
  have hgo : ∀ (S : List Nat) (w6 : World), Fr S w5 w6 → (∀ i ∈ S, i ∈ X.T ∨ w4.heap.size ≤ i) → Fr X.T w4 w6 := fun S w6 h hs => hF.trans h hs
  cases res with
  | some out =>
    obtain ⟨rfl, rc', C5, hrc⟩ := h
    obtain ⟨csc, C5b⟩ := C5.blk
    have hcq : X.gc ≠ X.gq := Blk.ne C5b Q5 (by decide)
    have hrq : rc' ≠ X.gq := fun e => C5.row_ne Q5 (by decide) (by rw [e])
    obtain ⟨l1, l2, l3⟩ := hl out rfl
    have c3 : w5.cell? ⟨X.gc, 3, none⟩ = some (.pointer none) := by obtain ⟨_, k, _⟩ := C5; exact k.cell 3
    refine (flush_gen K X.base X.g X.gc X.k X.m X.off X.pl X.pa X.pb .nilIface v X.ic (fun _ => False) (fun w1 pre Z body r => w1 = w5 ∧ pre = X.xs ∧ Z = List.replicate X.k 0 ∧ body = out ∧ r = rc') w5 hgc hk0 hk4 hpa (G5.cell 3)
      ((flush_none X.gc w5 c3).mono fun e w1 ⟨he, hw⟩ => ⟨he, .inr ⟨X.xs, List.replicate X.k 0, out, rc', hw.symm, rfl, rfl, rfl, rfl⟩⟩) (fun _ h => h.elim) ?_).mono ?_
    · rintro w1 pre Z body r ⟨rfl, rfl, rfl, rfl, rfl⟩
      exact ⟨G5, ⟨_, C5⟩, hm, by simp, l1, l2, l3, hb5, hvp⟩
    · rintro e w6 ⟨rfl, w1, ⟨h, _⟩ | ⟨pre, Z, body, r, ⟨rfl, rfl, rfl, rfl, rfl⟩, hf, hres⟩⟩
      · exact h.elim
      · refine ⟨rfl, hgo _ _ hf ?_, hf.blk Q5 (by simp; exact ⟨hgq.symm, hcq.symm, hrq.symm⟩), ?_⟩
        · intro i hi
          simp at hi
          rcases hi with rfl | rfl | rfl
          · exact .inl (by simp [Cx.T])
          · exact .inl (by simp [Cx.T])
          · rcases hrc with rfl | h
            · exact .inl (by simp [Cx.T])
            · exact .inr h
        · simp only [Option.bind_some]
          cases hfl : flushed X.pa X.k X.xs body with
          | none => rw [hfl] at hres; exact hres
          | some ys =>
            rw [hfl] at hres
            obtain ⟨rb, hbe, hrb⟩ := hres
            refine ⟨rb, hbe, ?_⟩
            rcases hrb with rfl | h
            · exact hrc
            · exact .inr (Nat.le_trans hF.size h)
  | none =>
    obtain ⟨f1, f2, f3⟩ := hfx rfl
    rcases h with ⟨rfl, hbad⟩ | ⟨hins, ⟨t, u, rfl⟩, gs, rcc, a1, a2, a3, a4⟩
    · have c3 : w5.cell? ⟨X.gc, 3, none⟩ = some (.pointer none) := by obtain ⟨_, _, _, _, _, _, _, _, k⟩ := hbad; exact k.cell 3
      refine (flush_gen K X.base X.g X.gc X.k X.m X.off X.pl X.pa X.pb .nilIface v X.ic (fun w1 => w1 = w5) (fun _ _ _ _ _ => False) w5 hgc hk0 hk4 hpa (G5.cell 3)
        ((flush_none X.gc w5 c3).mono fun e w1 ⟨he, hw⟩ => ⟨he, .inl hw.symm⟩) (fun w1 hw => by subst hw; exact ⟨G5, hbad⟩) (fun _ _ _ _ _ h => h.elim)).mono ?_
      rintro e w6 ⟨rfl, w1, ⟨rfl, hb6, hf⟩ | ⟨pre, Z, body, r, h, _⟩⟩
      · exact ⟨rfl, hgo _ _ hf (fun i hi => by simp at hi; subst hi; exact .inl (by simp [Cx.T])), hf.blk Q5 (by simp; exact hgq.symm), hb6⟩
      · exact h.elim
    · have hup := Chn.up gs X.gc X.m X.k X.pa rcc X.M a1
      obtain ⟨csc, C5b⟩ := Chn.head gs X.gc X.m X.k X.pa rcc X.M a1
      have hcq : X.gc ≠ X.gq := Blk.ne C5b Q5 (by decide)
      have hrcb := Chn.rc gs X.gc X.m X.k X.pa rcc X.M a1
      have hN : ∀ (a : Nat) (cs : Array Value) (t : TypeId), Blk w5 a t cs → 5 ≠ t → a ∉ rcc.toList := by
        intro a cs t hbk ht hi
        cases rcc with
        | none => simp at hi
        | some q =>
          simp at hi
          subst hi
          obtain ⟨cs', hcs⟩ := hrcb a rfl
          exact Blk.ne hcs hbk ht rfl
      have hgT : X.g ∉ X.gc :: (gs ++ rcc.toList) := by
        intro hi
        rw [List.mem_cons, List.mem_append] at hi
        rcases hi with hi | hi | hi
        · exact hgc hi
        · have := a3 _ hi; omega
        · exact hN _ _ _ G5 (by decide) hi
      have hqT : X.gq ∉ X.gc :: (gs ++ rcc.toList) := by
        intro hi
        rw [List.mem_cons, List.mem_append] at hi
        rcases hi with hi | hi | hi
        · exact hcq hi.symm
        · have := a3 _ hi; omega
        · exact hN _ _ _ Q5 (by decide) hi
      have hT5 : ∀ i ∈ X.gc :: (gs ++ rcc.toList), i ∈ X.T ∨ w4.heap.size ≤ i := by
        intro i hi
        rw [List.mem_cons, List.mem_append] at hi
        rcases hi with rfl | hi | hi
        · exact .inl (by simp [Cx.T])
        · exact .inr (a3 i hi)
        · rcases a4 with rfl | rfl | ⟨q, rfl, hq⟩
          · simp at hi
          · simp at hi; subst hi; exact .inl (by simp [Cx.T])
          · simp at hi; subst hi; exact .inr hq
      have hin := flush_chn K X.base f1 X.M gs X.gc X.m X.k X.pa rcc w5 a1 hb5 (by omega) f3
      refine (flush_gen K X.base X.g X.gc X.k X.m X.off X.pl X.pa X.pb (.iface t u) v X.ic (JBc gs X.gc rcc w5) (Jc K X.base gs X.gc X.m X.k X.pa rcc X.M w5) w5 hgc hk0 hk4 hpa (G5.cell 3) (hin.mono fun e w1 h => jc_of hk0 h) ?_ ?_).mono ?_
      · rintro w1 ⟨h, hf⟩
        exact ⟨hf.blk G5 hgT, h⟩
      · rintro w1 pre Z body r ⟨hb1, hp, hz, hlen, hf, _⟩
        have := extraB_le body.length
        refine ⟨hf.blk G5 hgT, hb1, hp, hz, by omega, fun hp => by have := hpa hp; omega, by omega, Nat.le_trans hb5 hf.size, fun r hr => by rw [f1] at hr; cases hr⟩
      · rintro e w6 ⟨rfl, w1, h | h⟩
        · obtain ⟨⟨hbad, hf⟩, hb', hf'⟩ := h
          exact ⟨rfl, (hF.trans hf hT5).trans hf' (fun i hi => by simp at hi; subst hi; exact .inl (by simp [Cx.T])), hf'.blk (hf.blk Q5 hqT) (by simp; exact hgq.symm), hb'⟩
        · obtain ⟨pre, Z, body, r, ⟨⟨icx, hb1⟩, hp, hz, hlen, hf, hr⟩, hf', hres⟩ := h
          have Q1 := hf.blk Q5 hqT
          have hrq : r ≠ X.gq := fun e => hb1.row_ne Q1 (by decide) (by rw [e])
          refine ⟨rfl, (hF.trans hf hT5).trans hf' ?_, hf'.blk Q1 (by simp; exact ⟨hgq.symm, hcq.symm, hrq.symm⟩), ?_⟩
          · intro i hi
            simp only [List.mem_cons, List.not_mem_nil, or_false] at hi
            rcases hi with rfl | rfl | rfl
            · exact .inl (by simp [Cx.T])
            · exact .inl (by simp [Cx.T])
            · rcases hr with h | h
              · exact hT5 _ (by rw [← h]; simp)
              · exact .inr (Nat.le_trans hF.size h)
          · simp only [Option.bind_none]
            cases hfl : flushed X.pa X.k pre body with
            | none => rw [hfl] at hres; exact hres
            | some ys =>
              rw [hfl] at hres
              obtain ⟨rb, ⟨v', hbe, _⟩, _⟩ := hres
              exact ⟨_, _, _, _, _, _, _, _, hbe⟩
end Go.Proofs.Ytdnepnnkpaoaaaa
