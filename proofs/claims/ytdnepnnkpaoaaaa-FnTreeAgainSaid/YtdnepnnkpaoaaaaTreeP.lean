/- Elements within elements, read as steps: what is read, what these steps build: plain facts. -/
import Derived.Test.YtdnepnnkpaoaaaaAgain
import Derived.Test.YtdnepnnkpaoaaaaWKit
namespace Go.Proofs.Ytdnepnnkpaoaaaa
open Go.RowKit
set_option linter.unusedVariables false

/-- The steps that bytes are read as, elements within each other at most so deep; f bounds how long this goes on. -/
def trF : Nat → Nat → List Int → Option (List It)
  | 0, _, _ => none
  | f + 1, deep, s =>
    if s = [] then some [] else
    match first s with
    | none => none
    | some (t, b, k) =>
      if deep = 0 then none else
      (if t / 32 % 2 = 0 then some [It.mk 6 0 0 ((s.take k).drop b) [] []] else trF f (deep - 1) ((s.take k).drop b)).bind fun ks =>
        (trF f deep (s.drop k)).map fun r => It.mk 11 0 t [] [] ks :: r
theorem trF_step (f deep : Nat) {s : List Int} {t : Int} {b k : Nat} (h : first s = some (t, b, k)) (hd : deep ≠ 0) :
    trF (f + 1) deep s = (if t / 32 % 2 = 0 then some [It.mk 6 0 0 ((s.take k).drop b) [] []] else trF f (deep - 1) ((s.take k).drop b)).bind fun ks => (trF f deep (s.drop k)).map fun r => It.mk 11 0 t [] [] ks :: r := by
  have hs : s ≠ [] := by rintro rfl; cases h
  simp only [trF, if_neg hs, h, if_neg hd]
theorem trF_nil (f deep : Nat) : trF (f + 1) deep [] = some [] := by simp only [trF, if_true]
theorem trF_bad (f deep : Nat) {s : List Int} (hs : s ≠ []) (h : first s = none) : trF (f + 1) deep s = none := by simp only [trF, if_neg hs, h]
theorem trF_low (f : Nat) {s : List Int} (hs : s ≠ []) : trF (f + 1) 0 s = none := by
  simp only [trF, if_neg hs]
  cases first s with
  | none => rfl
  | some v => obtain ⟨t, b, k⟩ := v; simp
theorem trF_more : ∀ (f g deep : Nat) (s : List Int), s.length < f → s.length < g → trF f deep s = trF g deep s := by
  intro f
  induction f with
  | zero => intro g deep s h; omega
  | succ f ih =>
    intro g deep s h hg
    obtain ⟨g, rfl⟩ : ∃ j, g = j + 1 := ⟨g - 1, by omega⟩
    by_cases hs : s = []
    · subst hs; rw [trF_nil, trF_nil]
    · cases hf : first s with
      | none => rw [trF_bad _ _ hs hf, trF_bad _ _ hs hf]
      | some v =>
        obtain ⟨t, b, k⟩ := v
        by_cases hd : deep = 0
        · subst hd; rw [trF_low _ hs, trF_low _ hs]
        · obtain ⟨b1, b2, b3, _⟩ := first_bounds hf
          rw [trF_step f deep hf hd, trF_step g deep hf hd]
          rw [ih g (deep - 1) ((s.take k).drop b) (by rw [List.length_drop, List.length_take]; omega) (by rw [List.length_drop, List.length_take]; omega), ih g deep (s.drop k) (by rw [List.length_drop]; omega) (by rw [List.length_drop]; omega)]
def tr (deep : Nat) (s : List Int) : Option (List It) := trF (s.length + 1) deep s
/-- The steps within an element. -/
def trK (deep : Nat) (t : Int) (c : List Int) : Option (List It) := if t / 32 % 2 = 0 then some [It.mk 6 0 0 c [] []] else tr (deep - 1) c
theorem tr_nil (deep : Nat) : tr deep [] = some [] := trF_nil _ _
theorem tr_bad (deep : Nat) {s : List Int} (hs : s ≠ []) (h : first s = none) : tr deep s = none := trF_bad _ _ hs h
theorem tr_low {s : List Int} (hs : s ≠ []) : tr 0 s = none := trF_low _ hs
theorem tr_step (deep : Nat) {s : List Int} {t : Int} {b k : Nat} (h : first s = some (t, b, k)) (hd : deep ≠ 0) :
    tr deep s = (trK deep t ((s.take k).drop b)).bind fun ks => (tr deep (s.drop k)).map fun r => It.mk 11 0 t [] [] ks :: r := by
  obtain ⟨b1, b2, b3, _⟩ := first_bounds h
  have e1 : trF s.length (deep - 1) ((s.take k).drop b) = tr (deep - 1) ((s.take k).drop b) := trF_more _ _ _ _ (by rw [List.length_drop, List.length_take]; omega) (by omega)
  have e2 : trF s.length deep (s.drop k) = tr deep (s.drop k) := trF_more _ _ _ _ (by rw [List.length_drop]; omega) (by omega)
  unfold tr
  rw [trF_step s.length deep h hd, e1, e2]
  rfl
theorem tr_isSome (deep : Nat) {s : List Int} {t : Int} {b k : Nat} (h : first s = some (t, b, k)) (hd : deep ≠ 0) :
    (tr deep s).isSome = ((trK deep t ((s.take k).drop b)).isSome && (tr deep (s.drop k)).isSome) := by
  rw [tr_step deep h hd]
  cases trK deep t ((s.take k).drop b) with
  | none => rfl
  | some ks => simp

/-- What these steps build: the bytes that were read. -/
theorem tr_facts : ∀ (N : Nat) (s : List Int) (deep : Nat) (its : List It), s.length < N → Byt s → s.length < 16777216 → tr deep s = some its →
    (∀ ins, okIs ins (deep + 1) its = true) ∧ costs its ≤ 16 * s.length ∧ noTBs its = true ∧ ∀ p : PB, p.failed = false → p.wrong = false → (runP p its).out = p.out ++ s ∧ (runP p its).failed = false ∧ (runP p its).wrong = false := by
  intro N
  induction N with
  | zero => intro s deep its h; omega
  | succ N ih =>
    intro s deep its hN hx hl h
    by_cases hs : s = []
    · subst hs
      rw [tr_nil] at h
      injection h with h
      subst h
      exact ⟨fun _ => by simp [okIs], by simp [costs], by simp [noTBs], fun p h1 h2 => by simp [runP, h1, h2]⟩
    · cases hf : first s with
      | none => rw [tr_bad _ hs hf] at h; cases h
      | some v =>
        obtain ⟨t, b, k⟩ := v
        by_cases hd : deep = 0
        · subst hd; rw [tr_low hs] at h; cases h
        · obtain ⟨b1, b2, b3, b4, b5, _⟩ := first_bounds hf
          have ht : 0 ≤ t ∧ t < 256 := by rw [← b4]; exact hx.getD 0
          have hag := again_eq hf hx hl
          have hcl : ((s.take k).drop b).length = k - b := by rw [List.length_drop, List.length_take]; omega
          have hcx : Byt ((s.take k).drop b) := (hx.take k).drop b
          rw [tr_step deep hf hd] at h
          obtain ⟨c, hc⟩ : ∃ c, c = (s.take k).drop b := ⟨_, rfl⟩
          rw [← hc] at h hag hcl hcx
          cases hk : trK deep t c with
          | none => rw [hk] at h; cases h
          | some ks =>
            rw [hk] at h
            cases hr : tr deep (s.drop k) with
            | none => rw [hr] at h; cases h
            | some r =>
              rw [hr] at h
              simp only [Option.bind_some, Option.map_some, Option.some.injEq] at h
              subst h
              have hdl : (s.drop k).length = s.length - k := List.length_drop ..
              obtain ⟨r1, r2, r3, r4⟩ := ih (s.drop k) deep r (by omega) (hx.drop k) (by omega) hr
              have hks : okIs true deep ks = true ∧ costs ks + 16 ≤ 16 * k ∧ noTBs ks = true ∧ (runP PB.new ks).out = c ∧ (runP PB.new ks).failed = false ∧ (runP PB.new ks).wrong = false := by
                unfold trK at hk
                split at hk
                · injection hk with hk
                  subst hk
                  refine ⟨?_, ?_, by simp [noTBs, It.noTB], ?_⟩
                  · simp [okIs, okI, smallB, hd]
                  · simp only [costs, It.cost, List.length_nil]
                    omega
                  · rw [run_cons rfl rfl]
                    have e : stepP PB.new (.mk 6 0 0 c [] []) = PB.new.write c := by simp [stepP]
                    rw [e]
                    simp [runP, PB.write, PB.new]
                · obtain ⟨k1, k2, k3, k4⟩ := ih c (deep - 1) ks (by omega) hcx (by omega) hk
                  obtain ⟨k5, k6, k7⟩ := k4 PB.new rfl rfl
                  refine ⟨?_, by omega, k3, by rw [k5]; rfl, k6, k7⟩
                  have := k1 true
                  rwa [show deep - 1 + 1 = deep by omega] at this
              obtain ⟨k1, k2, k3, k4, k5, k6⟩ := hks
              have hok : ∀ ins, okI ins (deep + 1) (.mk 11 0 t [] [] ks) = true := by
                intro ins
                unfold okI
                have h1 : decide (0 ≤ t) = true := by simp [ht.1]
                have h2 : decide (t ≤ 255) = true := by simp; omega
                simp [h1, h2, smallB, k1]
              refine ⟨fun ins => ?_, ?_, ?_, fun p h1 h2 => ?_⟩
              · unfold okIs
                rw [hok ins, r1 ins]
                rfl
              · simp only [costs, It.cost, List.length_nil]
                omega
              · simp [noTBs, It.noTB, k3, r3]
              · rw [run_cons h1 h2]
                have e : stepP p (.mk 11 0 t [] [] ks) = (p.absorb (runP PB.new ks)).element t (runP PB.new ks).out := by simp [stepP]
                have e2 : stepP p (.mk 11 0 t [] [] ks) = (p.absorb (runP PB.new ks)).put (derWrap t c) := by
                  rw [e, k4]; unfold PB.element; rw [if_neg b5]
                obtain ⟨q1, q2, q3⟩ := r4 (stepP p (.mk 11 0 t [] [] ks)) (by rw [e2]; simp [PB.put, PB.absorb, h1, k5]) (by rw [e2]; simp [PB.put, PB.absorb, h2, k6])
                refine ⟨?_, q2, q3⟩
                rw [q1, e2]
                simp only [PB.put, PB.absorb]
                rw [List.append_assoc, hag]
end Go.Proofs.Ytdnepnnkpaoaaaa
