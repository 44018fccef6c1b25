/- Steps of building: what impl.steps does, whatever the steps, by induction on their depth. -/
import Derived.Test.YtdnepnnkpaoaaaaGoodI
namespace Go.Proofs.Ytdnepnnkpaoaaaa
open Go.RowKit
set_option linter.unusedVariables false

theorem okIs_get {ins : Bool} {deep : Nat} : ∀ {xs : List It} {k : Nat} {x : It}, okIs ins deep xs = true → xs[k]? = some x → okI ins deep x = true
  | [], k, x, _, h => by simp at h
  | y :: ys, 0, x, h, hx => by
    unfold okIs at h
    rw [Bool.and_eq_true] at h
    simp only [List.getElem?_cons_zero, Option.some.injEq] at hx
    subst hx
    exact h.1
  | y :: ys, k + 1, x, h, hx => by
    unfold okIs at h
    rw [Bool.and_eq_true] at h
    simp only [List.getElem?_cons_succ] at hx
    exact okIs_get h.2 hx
theorem okIs_take {ins : Bool} {deep : Nat} : ∀ {xs : List It} (k : Nat), okIs ins deep xs = true → okIs ins deep (xs.take k) = true
  | xs, 0, _ => by simp [okIs]
  | [], k + 1, h => by simp [okIs]
  | y :: ys, k + 1, h => by
    unfold okIs at h
    rw [Bool.and_eq_true] at h
    rw [List.take_succ_cons]
    unfold okIs
    rw [Bool.and_eq_true]
    exact ⟨h.1, okIs_take k h.2⟩
theorem okI_deep {ins : Bool} {deep : Nat} {x : It} (h : okI ins deep x = true) : deep ≠ 0 := by
  obtain ⟨kd, n, t, d, o, ks⟩ := x
  exact (okI_mk h).2.2.2.2.2.2.2.1
theorem cost_get : ∀ {xs : List It} {k : Nat} {x : It}, xs[k]? = some x → x.cost ≤ costs xs
  | [], k, x, h => by simp at h
  | y :: ys, 0, x, hx => by
    simp only [List.getElem?_cons_zero, Option.some.injEq] at hx
    subst hx
    unfold costs
    omega
  | y :: ys, k + 1, x, hx => by
    simp only [List.getElem?_cons_succ] at hx
    have := cost_get hx
    unfold costs
    omega
theorem run_append (s : PB) : ∀ (xs ys : List It), runP s (xs ++ ys) = runP (runP s xs) ys := by
  intro xs
  induction xs generalizing s with
  | nil => intro ys; simp [runP]
  | cons x xs ih =>
    intro ys
    rw [List.cons_append]
    cases hf : s.failed
    · cases hw : s.wrong
      · rw [run_cons hf hw, run_cons hf hw]; exact ih _ ys
      · rw [run_wrong s _ hw, run_wrong s (x :: xs) hw, run_wrong s _ hw]
    · rw [run_failed s _ hf, run_failed s (x :: xs) hf, run_failed s _ hf]
theorem run_split (s : PB) (its : List It) (k : Nat) : runP s its = runP (runP s (its.take k)) (its.drop k) := by
  rw [← run_append, List.take_append_drop]
theorem take_not_wrong {s : PB} {its : List It} (h : (runP s its).wrong = false) (k : Nat) : (runP s (its.take k)).wrong = false := by
  cases hw : (runP s (its.take k)).wrong
  · rfl
  · rw [run_split s its k, run_wrong _ _ hw, hw] at h; cases h
theorem take_succ_run {s : PB} {its : List It} {k : Nat} {x : It} (hx : its[k]? = some x) (hf : (runP s (its.take k)).failed = false) (hw : (runP s (its.take k)).wrong = false) : runP s (its.take (k + 1)) = stepP (runP s (its.take k)) x := by
  obtain ⟨hk, rfl⟩ := List.getElem?_eq_some_iff.1 hx
  rw [List.take_succ_eq_append_getElem hk, run_append, run_cons hf hw]
  simp [runP]
theorem FitS.at_ {K : Kd} {m : Nat} {ins : Bool} {deep : Nat} : ∀ (xs ys : List It) (s : PB), okIs ins deep xs = true → s.failed = false → s.wrong = false → (runP s xs).failed = false → (runP s xs).wrong = false → FitS K m s (xs ++ ys) → FitS K m (runP s xs) ys
  | [], ys, s, _, _, _, _, _, h => by simpa [runP] using h
  | x :: xs, ys, s, hok, hf, hw, hf2, hw2, h => by
    unfold okIs at hok
    rw [Bool.and_eq_true] at hok
    rw [run_cons hf hw] at hf2 hw2 ⊢
    rw [List.cons_append] at h
    have h1 : (stepP s x).failed = false := by
      cases hh : (stepP s x).failed
      · rfl
      · rw [run_failed _ _ hh, hh] at hf2; cases hf2
    have h2 : (stepP s x).wrong = false := by
      cases hh : (stepP s x).wrong
      · rfl
      · rw [run_wrong _ _ hh, hh] at hw2; cases hw2
    exact FitS.at_ xs ys (stepP s x) hok.2 h1 h2 hf2 hw2 (h.tail hf hw hok.1)

theorem sbad : ∀ dep, SBad dep := by
  intro dep
  induction dep with
  | zero =>
    intro g ins B w its a n c hb hi hn hok hBg hBw hc
    refine steps_loop g B n c a its w (fun k wr => Bad wr g ∧ Fr [g] w wr) (BadS g ins w) hn (by have := len_costs its; unfold Mx at hc; omega) hi ⟨hb, Fr.refl _ _⟩ (fun k wr h => h.2.cells hBw (by simp; exact hBg)) ?_ (fun wr h => ⟨.inl rfl, h.1, h.2⟩)
    intro k x v wr w1 hx
    exact absurd rfl (okI_deep (okIs_get hok hx))
  | succ dep ih =>
    intro g ins B w its a n c hb hi hn hok hBg hBw hc
    refine steps_loop g B n c a its w (fun k wr => Bad wr g ∧ Fr [g] w wr) (BadS g ins w) hn (by have := len_costs its; unfold Mx at hc; omega) hi ⟨hb, Fr.refl _ _⟩ (fun k wr h => h.2.cells hBw (by simp; exact hBg)) ?_ (fun wr h => ⟨.inl rfl, h.1, h.2⟩)
    rintro k x v wr w1 hx ⟨h1, h2⟩ hf hv
    have hBwr := Nat.le_trans hBw h2.size
    refine (item_bad dep ih g ins B w1 x v (h1.keep hf) (hv.keep (hf.cells hBwr (by simp))) (okIs_get hok hx) hBg (Nat.le_trans hBwr hf.size) (Nat.le_trans (cost_get hx) hc)).mono ?_
    rintro e w' ⟨he, hb', hf'⟩
    have hF : Fr [g] w w' := (h2.trans hf (by simp)).trans hf' (fun i hi => .inl hi)
    rcases he with rfl | ⟨hi', hp⟩
    · exact .inl ⟨rfl, hb', hF⟩
    · exact .inr ⟨hp, .inr ⟨hi', hp⟩, hb', hF⟩

/-- What holds between two steps. -/
def InvS (K : Kd) (base g off pl : Nat) (pb : Bool) (p : List Int) (s : PB) (ic : Value) (rb : Option Nat) (ins : Bool) (B : Nat) (w : World) (its : List It) (k : Nat) (wr : World) : Prop :=
  Fr (fS g rb ic ins) w wr ∧
  ((∃ ic' rb', Pre K base g off pl pb p (runP s (its.take k)) ic' rb' ins B wr ∧ (rb' = rb ∨ ∃ q, rb' = some q ∧ w.heap.size ≤ q) ∧ (ic' = ic ∨ (ins = false ∧ ∀ i ∈ icB ic', w.heap.size ≤ i))) ∨
   ((runP s its).failed = true ∧ Bad wr g))

theorem sgood : ∀ dep, SGood dep := by
  intro dep
  induction dep with
  | zero =>
    intro K base g off pl pb p s ic rb ins B w its a n c hp hi hn hok hw hfit hd hc
    refine steps_loop g B n c a its w (fun k wr => wr = w) (Outc K base g off pl pb ic rb ins 0 Mx w (resOf p (runP s its))) hn (by have := len_costs its; unfold Mx at hc; omega) hi rfl (fun k wr h p _ => by rw [h]) ?_ ?_
    · intro k x v wr w1 hx
      exact absurd rfl (okI_deep (okIs_get hok hx))
    · rintro wr rfl
      have : its = [] := by
        cases its with
        | nil => rfl
        | cons x xs => exact absurd rfl (okI_deep (okIs_get hok (k := 0) (x := x) rfl))
      subst this
      simp only [runP]
      rw [resOf_ok hp.nf]
      exact ⟨Fr.refl _ _, rfl, ic, rb, hp.bld, hp.flag, .inl rfl, .inl rfl⟩
  | succ dep ih =>
    intro K base g off pl pb p s ic rb ins B w its a n c hp hi hn hok hw hfit hd hc
    have hBw := hp.bsz
    refine steps_loop g B n c a its w (InvS K base g off pl pb p s ic rb ins B w its) (Outc K base g off pl pb ic rb ins (dep + 1) Mx w (resOf p (runP s its))) hn (by have := len_costs its; unfold Mx at hc; omega) hi
      ⟨Fr.refl _ _, .inl ⟨ic, rb, by rw [List.take_zero]; simpa [runP] using hp, .inl rfl, .inl rfl⟩⟩ (fun k wr h => h.1.cells hBw hp.fS_ge) ?_ ?_
    · rintro k x v wr w1 hx ⟨hF, h⟩ hf hv
      have hBwr := Nat.le_trans hBw hF.size
      have hv1 := hv.keep (hf.cells hBwr (by simp))
      have hF1 : Fr (fS g rb ic ins) w w1 := hF.trans hf (by simp)
      have hokx := okIs_get hok hx
      have hcx := Nat.le_trans (cost_get hx) hc
      rcases h with ⟨ic', rb', hpk, hr, hic⟩ | ⟨hfail, hb⟩
      · have hst := take_succ_run hx hpk.nf hpk.nw
        have hwk : (stepP (runP s (its.take k)) x).wrong = false := by rw [← hst]; exact take_not_wrong hw _
        have hsplit : its = its.take k ++ (x :: its.drop (k + 1)) := by
          obtain ⟨hk, rfl⟩ := List.getElem?_eq_some_iff.1 hx
          rw [← List.drop_eq_getElem_cons hk, List.take_append_drop]
        have hfk : FitI K p.length (runP s (its.take k)) x := by
          have h1 : FitS K p.length s (its.take k ++ (x :: its.drop (k + 1))) := by rw [← hsplit]; exact hfit
          exact (FitS.at_ _ _ s (okIs_take k hok) hp.nf hp.nw hpk.nf hpk.nw h1).head hpk.nf hpk.nw
        refine (item_good dep ih K base g off pl pb p _ ic' rb' ins B w1 x v (by omega) (hpk.keep hf) hv1 hokx hwk hfk hcx).mono ?_
        intro e w' ho
        have ho' := Outc.after hF1 hr hic ho
        have hfin : runP s its = runP (stepP (runP s (its.take k)) x) (its.drop (k + 1)) := by rw [run_split s its (k + 1), hst]
        cases hff : (stepP (runP s (its.take k)) x).failed
        · rw [resOf_ok hff] at ho'
          obtain ⟨f1, rfl, ic2, rb2, b2, fl2, r2, i2⟩ := ho'
          refine .inl ⟨rfl, f1, .inl ⟨ic2, rb2, ?_, r2, i2⟩⟩
          rw [hst]
          exact ⟨b2, fl2, hp.op, Nat.le_trans hp.sz f1.size, step_dir _ _ hpk.dir, hff, hwk, hp.hB, hp.hg⟩
        · have hfail : (runP s its).failed = true := by rw [hfin, run_failed _ _ hff]; exact hff
          rw [resOf_no hff] at ho'
          rcases ho'.2 with ⟨rfl, hb⟩ | ⟨h1, h2, h3⟩
          · exact .inl ⟨rfl, ho'.1, .inr ⟨hfail, hb⟩⟩
          · refine .inr ⟨h2, ?_⟩
            rw [resOf_no hfail]
            exact ho'
      · refine (item_bad dep (sbad dep) g ins B w1 x v (hb.keep hf) hv1 hokx hp.hg (Nat.le_trans hBwr hf.size) hcx).mono ?_
        rintro e w' ⟨he, hb', hf'⟩
        have hF' : Fr (fS g rb ic ins) w w' := hF1.trans hf' (fun i hi => by simp at hi; subst hi; exact .inl (by unfold fS; simp))
        rcases he with rfl | ⟨hi', hp'⟩
        · exact .inl ⟨rfl, hF', .inr ⟨hfail, hb'⟩⟩
        · refine .inr ⟨hp', hF', ?_⟩
          rw [resOf_no hfail]
          exact .inr ⟨hi', hp', [], none, .inl ⟨hb', rfl⟩, Nat.zero_le _, by simp, .inl rfl⟩
    · rintro wr ⟨hF, h⟩
      rcases h with ⟨ic', rb', hpk, hr, hic⟩ | ⟨hfail, hb⟩
      · rw [List.take_of_length_le (by omega)] at hpk
        rw [resOf_ok hpk.nf]
        exact ⟨hF, rfl, ic', rb', hpk.bld, hpk.flag, hr, hic⟩
      · rw [resOf_no hfail]
        exact ⟨hF, .inl ⟨rfl, hb⟩⟩
end Go.Proofs.Ytdnepnnkpaoaaaa
