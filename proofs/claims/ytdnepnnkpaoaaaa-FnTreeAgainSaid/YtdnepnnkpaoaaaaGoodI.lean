/- A step on a builder that holds no error: what it builds, by the reference's own run. (Printed by gen_goodi.py.) -/
import Derived.Test.YtdnepnnkpaoaaaaMG
namespace Go.Proofs.Ytdnepnnkpaoaaaa
open Go.RowKit
set_option linter.unusedVariables false

/-- The outcome of steps within, as what is handed to the flush. -/
def inner (i : PB) : Option (List Int) := if i.failed then none else some i.out
theorem res_prefixed (p : List Int) (s i : PB) (k : Nat) (h1 : s.failed = false) : resOf p ((s.absorb i).prefixed i.out k) = (inner i).bind (flushed false k (p ++ s.out)) := by
  unfold inner
  cases hi : i.failed
  · simp only [Bool.false_eq_true, if_false, Option.bind_some, flushed]
    unfold PB.prefixed
    split
    · rw [resOf_ok (by simp [PB.put, PB.absorb, h1, hi])]
      simp [PB.put, PB.absorb]
    · rw [resOf_no (by simp [PB.fail])]
  · simp only [if_true, Option.bind_none]
    refine resOf_no ?_
    unfold PB.prefixed
    split <;> simp [PB.put, PB.fail, PB.absorb, h1, hi]
theorem res_element (p : List Int) (s i : PB) (t : Int) (h1 : s.failed = false) (ht : t % 32 ≠ 31) : resOf p ((s.absorb i).element t i.out) = (inner i).map (fun out => (p ++ s.out) ++ derWrap t out) := by
  unfold inner PB.element
  rw [if_neg ht]
  cases hi : i.failed
  · rw [resOf_ok (by simp [PB.put, PB.absorb, h1, hi])]
    simp [PB.put, PB.absorb]
  · rw [resOf_no (by simp [PB.put, PB.absorb, h1, hi])]
    rfl
theorem res_inner (q : List Int) (i : PB) : resOf q i = (inner i).map (fun out => q ++ out) := by
  unfold inner resOf
  cases i.failed <;> rfl
theorem put_len (s : PB) (v : List Int) : (s.put v).out.length = s.out.length + v.length := by simp [PB.put]

section
variable (dep : Nat) (hS : SGood dep) (K : Kd) (base g off pl : Nat) (pb : Bool) (p : List Int) (s : PB) (ic : Value) (rb : Option Nat) (ins : Bool) (B : Nat) (w : World) (hd : dep + 1 ≤ 100) (hp : Pre K base g off pl pb p s ic rb ins B w)
  (kd n t : Int) (d o : List Int) (ks : List It) (a5 : Option Addr) (c5 : Nat) (b5 : ItsIn w B a5 ks) (hok : okI ins (dep + 1) (.mk kd n t d o ks) = true) (hw : (stepP s (.mk kd n t d o ks)).wrong = false) (hfit : FitI K p.length s (.mk kd n t d o ks)) (hc' : costs ks ≤ Mx)
include hS hd hp b5 hok hw hfit hc'

/-- A step that prefixes its steps' bytes with their length. -/
theorem good_prefix (k : Nat) (zs : Array Value) (hk : 0 < k) (hk4 : k ≤ 4) (hks : okIs true dep ks = true) (e : stepP s (.mk kd n t d o ks) = (s.absorb (runP PB.new ks)).prefixed (runP PB.new ks).out k) (hnt : (It.mk kd n t d o ks).noTB = true → noTBs ks = true)
    (hmk : ∀ W, (Instr.makeSlice 22 (.int .i64 k) (.int .i64 k)).run Try.prog W = .ok (.slice (some ⟨W.heap.size, 0, none⟩) k k) (W.alloc (.cells zs 5)))
    (hzs : zs.toList = (List.replicate k 0).map (Value.int .u8)) (pp : Nat) (w1 : World) (h1 : Fr [] w w1) (hbox : Blk w1 pp 23 #[.slice a5 ks.length c5]) (hpp : w.heap.size ≤ pp) :
    Calls Try.prog 59 #[.pointer (some ⟨g, 0, none⟩), .int .i64 k, .bool false, .func (.func 99) #[] #[.pointer (some ⟨pp, 0, none⟩)]] w1 (Outc K base g off pl pb ic rb ins (dep + 1) Mx w (resOf p (stepP s (.mk kd n t d o ks)))) := by
  have hlim := hfit.out hok
  have hfree := hfit.free
  have hcost := cost_mk kd n t d o ks
  rw [e] at hw hlim hfree ⊢
  obtain ⟨i, hi⟩ : ∃ i, i = runP PB.new ks := ⟨_, rfl⟩
  rw [← hi] at hw hlim hfree ⊢
  have hiw : i.wrong = false := by
    unfold PB.prefixed at hw
    split at hw <;> simp [PB.put, PB.fail, PB.absorb, hp.nw] at hw <;> exact hw
  have hil : i.out.length ≤ costs ks := by rw [hi]; have := run_len true dep PB.new ks hks; simpa [PB.new] using this
  have hxl : (p ++ s.out).length = p.length + s.out.length := List.length_append
  -- room, on either kind of builder
  have hroom : (K.fix = none ∧ 16000000 ≤ K.lim ∧ p.length + s.out.length + 16 + costs ks ≤ Mx) ∨ (K.fix ≠ none ∧ noTBs ks = true ∧ i.failed = false ∧ i.out.length / 256 ^ k = 0 ∧ p.length + s.out.length + (k + i.out.length) ≤ K.lim ∧ K.lim ≤ 16000000) := by
    rcases hfit with ⟨f1, f2, f3⟩ | ⟨f1, f2, f3, f4, f5⟩
    · left; rw [hcost] at f3; exact ⟨f1, f2, by omega⟩
    · right
      rw [e, ← hi] at f4 f5
      have h1 : i.failed = false := by
        unfold PB.prefixed at f4
        split at f4
        · simp [PB.put, PB.absorb, hp.nf] at f4; exact f4
        · simp [PB.fail] at f4
      unfold PB.prefixed at f4 f5
      split at f5
      · rename_i hz
        rw [put_len] at f5
        simp only [List.length_append, bigB_len] at f5
        have e2 : (s.absorb i).out = s.out := rfl
        rw [e2] at f5
        exact ⟨f1, hnt f3, h1, hz, by omega, f2⟩
      · rename_i hz
        rw [if_neg hz] at f4
        simp [PB.fail] at f4
  have hMx : Mx = 2000000 := rfl
  have hr := res_prefixed p s i k hp.nf
  rw [hr]
  refine (addLP K base g 99 pp k off pl false pb (p ++ s.out) (inner i) ic rb ins dep Mx zs w1 (hp.bld.keep h1) (hp.flag.keep0 h1) (by have := hp.op; omega) (Nat.le_trans hp.sz h1.size) hk hk4 (fun h => by cases h) (by rcases hroom with h | h <;> omega) ?_ ?_ hmk hzs (fun _ _ => by kernel_rfl) ?_).mono fun e w' h => Outc.from_ h1 h
  · intro out ho
    have ho' : out = i.out := by unfold inner at ho; split at ho; cases ho; injection ho with ho; exact ho.symm
    subst ho'
    rw [hxl]
    refine ⟨by rcases hroom with h | h <;> omega, fun h => by (cases h), by rcases hroom with h | h <;> omega⟩
  · intro ho
    rcases hroom with h | h
    · exact ⟨h.1, by omega, h.2.1⟩
    · unfold inner at ho; rw [h.2.2.1] at ho; cases ho
  · intro gc rc icc w2 fa hicc ba fla hba hgc hrc
    have hgS := fS_lt (ins' := false) hp.bld hp.flag
    have hFw : Fr (fS g rb ic false) w w2 := (h1.mono (by simp)).trans fa (fun i hi => .inl hi)
    have hbox2 := fa.blk hbox (fun h => by have := hgS _ h; omega)
    have hsz1 := h1.size
    have hBsz := hp.bsz
    refine wWithin gc pp _ _ a5 w2 _ Outc.endsF hbox2 ?_
    have := hS K base gc (p ++ s.out).length k false ((p ++ s.out) ++ List.replicate k 0) PB.new icc (some rc) true B w2 ks a5 ks.length c5
      ⟨by have e9 : PB.new.out = [] := rfl; rw [e9, List.append_nil]; exact ba, fla, by simp; omega, hba, by simp [PB.new], rfl, rfl, hp.hB, by omega⟩
      (hFw.its hBsz hp.fS_ge b5) rfl hks (by rw [← hi]; exact hiw) ?_ (by omega) hc'
    · rw [res_inner, ← hi] at this
      refine this.mono fun e w' h => ?_
      have e8 : (fun out => ((p ++ s.out) ++ List.replicate k 0) ++ out) = (fun out => (p ++ s.out) ++ (List.replicate k 0 ++ out)) := by funext out; rw [List.append_assoc]
      rw [e8] at h
      exact h
    · have e7 : ((p ++ s.out) ++ List.replicate k 0).length = p.length + s.out.length + k := by simp; omega
      have e6 : PB.new.out.length = 0 := rfl
      rcases hroom with ⟨f1, f2, f3⟩ | ⟨f1, f2, f3, f4, f5, f6⟩
      · left; exact ⟨f1, f2, by rw [e7, e6]; omega⟩
      · right; rw [← hi]; exact ⟨f1, f6, f2, f3, by rw [e7]; omega⟩

omit hok in
/-- A step that wraps its steps' bytes in an element. -/
theorem good_asn1 (ht : t % 32 ≠ 31) (t0 : 0 ≤ t) (t1 : t ≤ 255) (hks : okIs true dep ks = true) (e : stepP s (.mk kd n t d o ks) = (s.absorb (runP PB.new ks)).element t (runP PB.new ks).out) (hnt : (It.mk kd n t d o ks).noTB = true → noTBs ks = true)
    (pp : Nat) (w1 : World) (h1 : Fr [] w w1) (hbox : Blk w1 pp 23 #[.slice a5 ks.length c5]) (hpp : w.heap.size ≤ pp) :
    Calls Try.prog 40 #[.pointer (some ⟨g, 0, none⟩), .int .u8 t, .func (.func 99) #[] #[.pointer (some ⟨pp, 0, none⟩)]] w1 (Outc K base g off pl pb ic rb ins (dep + 1) Mx w (resOf p (stepP s (.mk kd n t d o ks)))) := by
  have hcost := cost_mk kd n t d o ks
  rw [e] at hw ⊢
  obtain ⟨i, hi⟩ : ∃ i, i = runP PB.new ks := ⟨_, rfl⟩
  rw [← hi] at hw ⊢
  have hiw : i.wrong = false := by
    unfold PB.element at hw
    rw [if_neg ht] at hw
    simp [PB.put, PB.absorb, hp.nw] at hw
    exact hw
  have hil : i.out.length ≤ costs ks := by rw [hi]; have := run_len true dep PB.new ks hks; simpa [PB.new] using this
  have hxl : (p ++ s.out).length = p.length + s.out.length := List.length_append
  have hdl := derWrap_lenx t i.out
  have hex := extraB_le i.out.length
  have hroom : (K.fix = none ∧ 16000000 ≤ K.lim ∧ p.length + s.out.length + 16 + costs ks ≤ Mx) ∨ (K.fix ≠ none ∧ noTBs ks = true ∧ i.failed = false ∧ p.length + s.out.length + (derWrap t i.out).length ≤ K.lim ∧ K.lim ≤ 16000000) := by
    rcases hfit with ⟨f1, f2, f3⟩ | ⟨f1, f2, f3, f4, f5⟩
    · left; rw [hcost] at f3; exact ⟨f1, f2, by omega⟩
    · right
      rw [e, ← hi] at f4 f5
      unfold PB.element at f4 f5
      rw [if_neg ht] at f4 f5
      rw [put_len] at f5
      have e2 : (s.absorb i).out = s.out := rfl
      rw [e2] at f5
      have h1 : i.failed = false := by simp [PB.put, PB.absorb, hp.nf] at f4; exact f4
      exact ⟨f1, hnt f3, h1, by omega, f2⟩
  have hMx : Mx = 2000000 := rfl
  rw [res_element p s i t hp.nf ht]
  refine (addASN1 K base g 99 pp off pl pb t (p ++ s.out) (inner i) ic rb ins dep Mx w1 (hp.bld.keep h1) (hp.flag.keep0 h1) (by have := hp.op; omega) (Nat.le_trans hp.sz h1.size) ht t0 (by omega) (by rcases hroom with h | h <;> omega) ?_ ?_ (fun _ _ => by kernel_rfl) ?_).mono fun e w' h => Outc.from_ h1 h
  · intro out ho
    have ho' : out = i.out := by unfold inner at ho; split at ho; cases ho; injection ho with ho; exact ho.symm
    subst ho'
    rw [hxl]
    exact ⟨by rcases hroom with h | h <;> omega, by rcases hroom with h | h <;> omega⟩
  · intro ho
    rcases hroom with h | h
    · exact ⟨h.1, by omega, h.2.1⟩
    · unfold inner at ho; rw [h.2.2.1] at ho; cases ho
  · intro gc rc icc w2 fa hicc ba fla hba hgc hrc
    have hgS := fS_lt (ins' := false) hp.bld hp.flag
    have hFw : Fr (fS g rb ic false) w w2 := (h1.mono (by simp)).trans fa (fun i hi => .inl hi)
    have hbox2 := fa.blk hbox (fun h => by have := hgS _ h; omega)
    have hsz1 := h1.size
    have hBsz := hp.bsz
    refine wWithin gc pp _ _ a5 w2 _ Outc.endsF hbox2 ?_
    have := hS K base gc ((p ++ s.out) ++ [t]).length 1 true (((p ++ s.out) ++ [t]) ++ List.replicate 1 0) PB.new icc (some rc) true B w2 ks a5 ks.length c5
      ⟨by have e9 : PB.new.out = [] := rfl; rw [e9, List.append_nil]; exact ba, fla, by simp; omega, hba, by simp [PB.new], rfl, rfl, hp.hB, by omega⟩
      (hFw.its hBsz hp.fS_ge b5) rfl hks (by rw [← hi]; exact hiw) ?_ (by omega) hc'
    · rw [res_inner, ← hi] at this
      refine this.mono fun e w' h => ?_
      have e8 : (fun out => (((p ++ s.out) ++ [t]) ++ List.replicate 1 0) ++ out) = (fun out => ((p ++ s.out) ++ [t]) ++ (List.replicate 1 0 ++ out)) := by funext out; rw [List.append_assoc]
      rw [e8] at h
      exact h
    · have e7 : (((p ++ s.out) ++ [t]) ++ List.replicate 1 (0 : Int)).length = p.length + s.out.length + 2 := by simp; omega
      have e6 : PB.new.out.length = 0 := rfl
      rcases hroom with ⟨f1, f2, f3⟩ | ⟨f1, f2, f3, f5, f6⟩
      · left; exact ⟨f1, f2, by rw [e7, e6]; omega⟩
      · right; rw [← hi]; exact ⟨f1, f6, f2, f3, by rw [e7]; omega⟩

omit hok in
/-- A step that is a value. -/
theorem good_value (bad : Bool) (hks : okIs ins dep ks = true) (e : stepP s (.mk kd n t d o ks) = if bad then (runP s ks).fail else runP s ks) (hnt : (It.mk kd n t d o ks).noTB = true → noTBs ks = true) (w1 : World) (h1 : Fr [] w w1) :
    Calls Try.prog 89 #[.pointer (some ⟨g, 0, none⟩), .iface 121 (.agg #[.slice a5 ks.length c5, .bool bad])] w1 (Outc K base g off pl pb ic rb ins (dep + 1) Mx w (resOf p (stepP s (.mk kd n t d o ks)))) := by
  have hcost := cost_mk kd n t d o ks
  have F2 : Fr [] w (w1.alloc (.cells #[.slice a5 ks.length c5, .bool bad] 121)) := h1.alloc _
  have hiw : (runP s ks).wrong = false := by
    rw [e] at hw
    cases bad <;> simpa [PB.fail] using hw
  have hfitk : FitS K p.length s ks := by
    rcases hfit with ⟨f1, f2, f3⟩ | ⟨f1, f2, f3, f4, f5⟩
    · left; rw [hcost] at f3; exact ⟨f1, f2, by omega⟩
    · right
      rw [e] at f4 f5
      cases bad
      · exact ⟨f1, f2, hnt f3, f4, f5⟩
      · simp [PB.fail] at f4
  refine (addValue_any g a5 ks.length c5 bad (fS g rb ic ins) w1 (Outc K base g off pl pb ic rb ins dep Mx (w1.alloc (.cells #[.slice a5 ks.length c5, .bool bad] 121)) (resOf p (runP s ks))) Outc.endsF
    (fun i hi => Nat.lt_of_lt_of_le (fS_lt hp.bld hp.flag i hi) h1.size) ?_ ?_).mono ?_
  · rintro w2 ⟨_, h⟩
    cases hr : resOf p (runP s ks) with
    | some ys =>
      rw [hr] at h
      obtain ⟨_, ic', rb', ⟨v, k, _⟩, _⟩ := h
      exact ⟨_, _, _, _, _, _, _, _, k⟩
    | none =>
      rw [hr] at h
      rcases h with ⟨_, ⟨t, u', v1, v2, v4, v5, v6, v7, k⟩⟩ | ⟨_, ⟨t, u, h⟩, _⟩
      · exact ⟨_, _, _, _, _, _, _, _, k⟩
      · cases h
  · exact (hS K base g off pl pb p s ic rb ins B _ ks a5 ks.length c5 (hp.keep F2) (F2.its hp.bsz (by simp) b5) rfl hks hiw hfitk (by omega) hc').mono fun e w2 h => ⟨h, h.1⟩
  · rintro e' w2 (⟨⟨t9, u9, rfl⟩, hq⟩ | ⟨rfl, ⟨hb, hq⟩ | ⟨hb, ty, u, w3, w4, hq, hf4, rfl⟩⟩)
    · have hq' := Outc.dep_le (Nat.le_succ dep) (Outc.from_ F2 hq)
      have hnone : resOf p (runP s ks) = none := by
        cases hr : resOf p (runP s ks) with
        | none => rfl
        | some ys => rw [hr] at hq; obtain ⟨_, h, _⟩ := hq; cases h
      rw [hnone] at hq'
      have : resOf p (stepP s (.mk kd n t d o ks)) = none := by
        rw [e]
        unfold resOf at hnone ⊢
        cases bad
        · exact hnone
        · simp [PB.fail]
      rw [this]
      exact hq'
    · subst hb
      rw [e]
      exact Outc.dep_le (Nat.le_succ dep) (Outc.from_ F2 hq)
    · subst hb
      have : resOf p (stepP s (.mk kd n t d o ks)) = none := by rw [e]; simp [resOf, PB.fail]
      rw [this]
      have hq' := Outc.from_ F2 hq
      refine ⟨(hq'.1.trans hf4 (by simp)).set_ (p := ⟨g, 0, none⟩) (.inl (by unfold fS; simp)) _, .inl ⟨rfl, ?_⟩⟩
      obtain ⟨_, h⟩ := hq
      cases hr : resOf p (runP s ks) with
      | some ys =>
        rw [hr] at h
        obtain ⟨_, ic', rb', ⟨v, k, _⟩, _⟩ := h
        exact ⟨ty, u, _, _, _, _, _, _, (hf4.blk k (by simp)).set_ 0 _⟩
      | none =>
        rw [hr] at h
        rcases h with ⟨_, ⟨t, u', v1, v2, v4, v5, v6, v7, k⟩⟩ | ⟨_, ⟨t, u, h⟩, _⟩
        · exact ⟨ty, _, _, _, _, _, _, _, (hf4.blk k (by simp)).set_ 0 _⟩
        · cases h
end

theorem item_good (dep : Nat) (hS : SGood dep) (K : Kd) (base g off pl : Nat) (pb : Bool) (p : List Int) (s : PB) (ic : Value) (rb : Option Nat) (ins : Bool) (B : Nat) (w : World) (x : It) (v : Value) (hd : dep + 1 ≤ 100)
    (hp : Pre K base g off pl pb p s ic rb ins B w) (hv : ItV w B x v) (hok : okI ins (dep + 1) x = true) (hw : (stepP s x).wrong = false) (hfit : FitI K p.length s x) (hc : x.cost ≤ Mx) :
    Calls Try.prog (itemFn x.kd) #[.pointer (some ⟨g, 0, none⟩), v] w (Outc K base g off pl pb ic rb ins (dep + 1) Mx w (resOf p (stepP s x))) := by
  obtain ⟨kd, n, t, d, o, ks⟩ := x
  obtain ⟨hn, a3, c3, a4, c4, a5, c5, rfl, ⟨l3, m3, b3, y3⟩, ⟨l4, m4, b4⟩, ⟨l5, m5, b5⟩⟩ := hv
  obtain ⟨k0', k1', t0, t1, h23, h4, hsm, hdp, hks⟩ := okI_mk hok
  have hcx := hc
  rw [cost_mk] at hc
  have hMx : Mx = 2000000 := rfl
  have hc' : costs ks ≤ Mx := by omega
  have hlim := hfit.out hok
  have hfree := hfit.free
  have hE : Ends (Outc K base g off pl pb ic rb ins (dep + 1) Mx w (resOf p (stepP s (.mk kd n t d o ks)))) := Outc.endsF
  have hxl : (p ++ s.out).length = p.length + s.out.length := List.length_append
  have hop' : off + pl ≤ (p ++ s.out).length := by have := hp.op; omega
  have PL : ∀ (ys : List Int) (w1 : World) (f : FuncId) (args : Array Value), Fr [] w w1 → (stepP s (.mk kd n t d o ks)).failed = false → (stepP s (.mk kd n t d o ks)).out = s.out ++ ys →
      ((p ++ s.out).length + ys.length ≤ K.lim → Bld K w1 base g (p ++ s.out) off pl pb ic rb → base ≤ w1.heap.size → Calls Try.prog f args w1 (AddPost K base g ((p ++ s.out) ++ ys) off pl pb ic rb w1)) → Calls Try.prog f args w1 (Outc K base g off pl pb ic rb ins (dep + 1) Mx w (resOf p (stepP s (.mk kd n t d o ks)))) := by
    intro ys w1 f args h1 e1 e2 h2
    have hl := hlim.1
    rw [e2, List.length_append] at hl
    rw [resOf_ok e1, e2, ← List.append_assoc]
    exact (h2 (by omega) (hp.bld.keep h1) (Nat.le_trans hp.sz h1.size)).mono fun e w' h => Outc.from_ h1 (Outc.of_add (hp.bld.keep h1) (hp.flag.keep0 h1) h)
  have EL : ∀ (ys : List Int) (w1 : World) (f : FuncId) (args : Array Value), Fr [] w w1 → (stepP s (.mk kd n t d o ks)).failed = false → (stepP s (.mk kd n t d o ks)).out = s.out ++ ys →
      ((p ++ s.out).length + ys.length ≤ K.lim → Bld K w1 base g (p ++ s.out) off pl pb ic rb → Flag w1 base ic ins → base ≤ w1.heap.size → Calls Try.prog f args w1 (Outc K base g off pl pb ic rb ins (dep + 1) Mx w1 (some ((p ++ s.out) ++ ys)))) → Calls Try.prog f args w1 (Outc K base g off pl pb ic rb ins (dep + 1) Mx w (resOf p (stepP s (.mk kd n t d o ks)))) := by
    intro ys w1 f args h1 e1 e2 h2
    have hl := hlim.1
    rw [e2, List.length_append] at hl
    rw [resOf_ok e1, e2, ← List.append_assoc]
    exact (h2 (by omega) (hp.bld.keep h1) (hp.flag.keep0 h1) (Nat.le_trans hp.sz h1.size)).mono fun e w' h => Outc.from_ h1 h
  have NO : ∀ (w1 : World) (f : FuncId) (args : Array Value), Fr [] w w1 → (stepP s (.mk kd n t d o ks)).failed = true → Calls Try.prog f args w1 (Outc K base g off pl pb ic rb ins (dep + 1) Mx w1 none) → Calls Try.prog f args w1 (Outc K base g off pl pb ic rb ins (dep + 1) Mx w (resOf p (stepP s (.mk kd n t d o ks)))) := by
    intro w1 f args h1 e1 h2
    rw [resOf_no e1]
    exact h2.mono fun e w' h => Outc.from_ h1 h
  have hya : ∀ (w1 : World) (a' : Option Addr), Fr [] w w1 → (∀ b, a' = some b → w.heap.size ≤ b.block ∧ b.block < w1.heap.size) → ∀ b, a' = some b → b.block < w1.heap.size ∧ b.block ∉ fS g rb ic false := by
    intro w1 a' h1 h b hb
    have := h b hb
    exact ⟨this.2, fun hi => by have := fS_lt hp.bld hp.flag _ hi; omega⟩
  show Calls Try.prog (itemFn kd) _ w _
  have hkd : kd = 0 ∨ kd = 1 ∨ kd = 2 ∨ kd = 3 ∨ kd = 4 ∨ kd = 5 ∨ kd = 6 ∨ kd = 7 ∨ kd = 8 ∨ kd = 9 ∨ kd = 10 ∨ kd = 11 ∨ kd = 12 ∨ kd = 13 ∨ kd = 14 ∨ kd = 15 ∨ kd = 16 ∨ kd = 17 ∨ kd = 18 ∨ kd = 19 ∨ kd = 20 ∨ kd = 21 ∨ kd = 22 ∨ kd = 23 ∨ kd = 24 ∨ kd = 25 := by omega
  rcases hkd with rfl | rfl | rfl | rfl | rfl | rfl | rfl | rfl | rfl | rfl | rfl | rfl | rfl | rfl | rfl | rfl | rfl | rfl | rfl | rfl | rfl | rfl | rfl | rfl | rfl | rfl
  · refine k0 g n t _ _ _ w _ hE fun w1 h1 => PL (bigB 1 n) w1 _ _ h1 (by simp [stepP, PB.write, hp.nf]) (by simp [stepP, PB.write, numB]) fun hl hb hz => ?_
    have := addU8_any K base g (p ++ s.out) off pl pb ic rb (n % 256) w1 hb hl hz
    exact this
  · refine k1 g n t _ _ _ w _ hE fun w1 h1 => PL (bigB 2 n) w1 _ _ h1 (by simp [stepP, PB.write, hp.nf]) (by simp [stepP, PB.write, numB]) fun hl hb hz => ?_
    have := addU16_any K base g (p ++ s.out) off pl pb ic rb (n % 65536) w1 hb (by rw [bigB_len] at hl; exact hl) hz (Int.emod_nonneg _ (by decide)) (by have := Int.emod_lt_of_pos n (show (0 : Int) < 65536 by decide); omega)
    rw [bigB_m2] at this
    exact this
  · refine k2 g n t _ _ _ w _ hE fun w1 h1 => PL (bigB 3 n) w1 _ _ h1 (by simp [stepP, PB.write, hp.nf]) (by simp [stepP, PB.write, numB]) fun hl hb hz => ?_
    have := addU24_any K base g (p ++ s.out) off pl pb ic rb (n % 4294967296) w1 hb (by rw [bigB_len] at hl; exact hl) hz (Int.emod_nonneg _ (by decide)) (by have := Int.emod_lt_of_pos n (show (0 : Int) < 4294967296 by decide); omega)
    rw [bigB_m3] at this
    exact this
  · refine k3 g n t _ _ _ w _ hE fun w1 h1 => PL (bigB 4 n) w1 _ _ h1 (by simp [stepP, PB.write, hp.nf]) (by simp [stepP, PB.write, numB]) fun hl hb hz => ?_
    have := addU32_any K base g (p ++ s.out) off pl pb ic rb (n % 4294967296) w1 hb (by rw [bigB_len] at hl; exact hl) hz (Int.emod_nonneg _ (by decide)) (by have := Int.emod_lt_of_pos n (show (0 : Int) < 4294967296 by decide); omega)
    rw [bigB_m4] at this
    exact this
  · refine k4 g n t _ _ _ w _ hE fun w1 h1 => PL (bigB 6 n) w1 _ _ h1 (by simp [stepP, PB.write, hp.nf]) (by simp [stepP, PB.write, numB]) fun hl hb hz => ?_
    have h48 := h4 rfl
    have e : n % 18446744073709551616 = n := Int.emod_eq_of_lt h48.1 (by omega)
    rw [e]
    exact addU48_any K base g (p ++ s.out) off pl pb ic rb n w1 hb (by rw [bigB_len] at hl; exact hl) hz h48.1 (by omega)
  · refine k5 g n t _ _ _ w _ hE fun w1 h1 => PL (bigB 8 n) w1 _ _ h1 (by simp [stepP, PB.write, hp.nf]) (by simp [stepP, PB.write, numB]) fun hl hb hz => ?_
    have := addU64_any K base g (p ++ s.out) off pl pb ic rb (n % 18446744073709551616) w1 hb (by rw [bigB_len] at hl; exact hl) hz (Int.emod_nonneg _ (by decide)) (by have := Int.emod_lt_of_pos n (show (0 : Int) < 18446744073709551616 by decide); omega)
    rw [bigB_m8] at this
    exact this
  · refine k6 g w n t _ _ a3 _ c3 d rfl b3.lt (by omega) w rfl _ hE fun a' c' w1 h1 hb _ => PL d w1 _ _ h1 (by simp [stepP, PB.write, hp.nf]) (by simp [stepP, PB.write]) fun hl hb' hz => ?_
    exact addBytes_any K base g (p ++ s.out) d off pl pb ic rb a' d.length c' w1 hb' rfl hb hl hz
  · exact k7 g n t _ _ _ _ _ w _ hE fun pp w1 h1 hbx hpp => wP8 g _ w1 _ hE (good_prefix dep hS K base g off pl pb p s ic rb ins B w hd hp 7 n t d o ks a5 c5 b5 hok hw hfit hc' 1 #[.int .u8 0] (by decide) (by decide) (by simpa using hks) (by simp [stepP]) (fun h => by unfold It.noTB at h; simpa using h) (fun _ => by kernel_rfl) rfl pp w1 h1 hbx hpp)
  · exact k8 g n t _ _ _ _ _ w _ hE fun pp w1 h1 hbx hpp => wP16 g _ w1 _ hE (good_prefix dep hS K base g off pl pb p s ic rb ins B w hd hp 8 n t d o ks a5 c5 b5 hok hw hfit hc' 2 #[.int .u8 0, .int .u8 0] (by decide) (by decide) (by simpa using hks) (by simp [stepP]) (fun h => by unfold It.noTB at h; simpa using h) (fun _ => by kernel_rfl) rfl pp w1 h1 hbx hpp)
  · exact k9 g n t _ _ _ _ _ w _ hE fun pp w1 h1 hbx hpp => wP24 g _ w1 _ hE (good_prefix dep hS K base g off pl pb p s ic rb ins B w hd hp 9 n t d o ks a5 c5 b5 hok hw hfit hc' 3 #[.int .u8 0, .int .u8 0, .int .u8 0] (by decide) (by decide) (by simpa using hks) (by simp [stepP]) (fun h => by unfold It.noTB at h; simpa using h) (fun _ => by kernel_rfl) rfl pp w1 h1 hbx hpp)
  · exact k10 g n t _ _ _ _ _ w _ hE fun pp w1 h1 hbx hpp => wP32 g _ w1 _ hE (good_prefix dep hS K base g off pl pb p s ic rb ins B w hd hp 10 n t d o ks a5 c5 b5 hok hw hfit hc' 4 #[.int .u8 0, .int .u8 0, .int .u8 0, .int .u8 0] (by decide) (by decide) (by simpa using hks) (by simp [stepP]) (fun h => by unfold It.noTB at h; simpa using h) (fun _ => by kernel_rfl) rfl pp w1 h1 hbx hpp)
  · refine k11 g n t _ _ _ _ _ w _ hE fun pp w1 h1 hbx hpp => ?_
    rw [show t % 256 = t by omega]
    by_cases ht : t % 32 = 31
    · refine NO w1 _ _ h1 (by simp [stepP, PB.element, ht, PB.fail]) ?_
      exact addASN1_tag K base g off pl pb t (p ++ s.out) _ ic rb ins (dep + 1) Mx w1 (hp.bld.keep h1) ht t0 (by omega)
    · exact good_asn1 dep hS K base g off pl pb p s ic rb ins B w hd hp 11 n t d o ks a5 c5 b5 hw hfit hc' ht t0 t1 (by simpa using hks) (by simp [stepP]) (fun h => by unfold It.noTB at h; simpa using h) pp w1 h1 hbx hpp
  · refine k12 g n t _ _ _ w _ hE fun w1 h1 => EL (derWrap 1 [bByte (n == 1)]) w1 _ _ h1 (by simp [stepP, PB.prim, primC, PB.element, PB.put, hp.nf]) (by have e : bByte (n == 1) = if n = 1 then 255 else 0 := (by unfold bByte; by_cases h : n = 1 <;> simp [h]); simp [stepP, PB.prim, primC, PB.element, PB.put, e]) fun hl hb hf hz => ?_
    exact gBool K base g off pl pb (p ++ s.out) ic rb ins dep Mx w1 hb hf hop' hz (n == 1) hl
  · refine k13 g n t _ _ _ w _ hE fun w1 h1 => EL (derWrap 2 (bigB (intLen n) n)) w1 _ _ h1 (by simp [stepP, PB.prim, primC, PB.element, PB.put, hp.nf]) (by simp [stepP, PB.prim, primC, PB.element, PB.put]) fun hl hb hf hz => ?_
    exact wInt64 g n w1 _ Outc.endsF (gSigned K base g off pl pb (p ++ s.out) ic rb ins dep Mx w1 hb hf hop' hz 2 n hn.1 hn.2 (by decide) (by decide) (by decide) hl)
  · refine k14 g n t _ _ _ w _ hE fun w1 h1 => ?_
    rw [show t % 256 = t by omega]
    by_cases ht : t % 32 = 31
    · refine NO w1 _ _ h1 (by simp [stepP, PB.prim, primC, PB.element, ht, PB.fail]) ?_
      refine wInt64T g n t w1 _ Outc.endsF (wSigned g t n w1 _ Outc.endsF ?_)
      have F1 : Fr [] w1 (w1.alloc (.cells #[.int .i64 n] 2)) := (Fr.refl [] w1).alloc _
      exact (addASN1_tag K base g off pl pb t (p ++ s.out) _ ic rb ins (dep + 1) Mx _ ((hp.bld.keep h1).keep F1) ht t0 (by omega)).mono fun e w' h => Outc.from_ F1 h
    · refine EL (derWrap t (bigB (intLen n) n)) w1 _ _ h1 (by simp [stepP, PB.prim, primC, PB.element, PB.put, hp.nf, ht]) (by simp [stepP, PB.prim, primC, PB.element, PB.put, ht]) fun hl hb hf hz => ?_
      exact wInt64T g n t w1 _ Outc.endsF (gSigned K base g off pl pb (p ++ s.out) ic rb ins dep Mx w1 hb hf hop' hz t n hn.1 hn.2 ht t0 (by omega) hl)
  · refine k15 g n t _ _ _ w _ hE fun w1 h1 => EL (derWrap 2 (bigB (uintLen (n % 18446744073709551616)) (n % 18446744073709551616))) w1 _ _ h1 (by simp [stepP, PB.prim, primC, PB.element, PB.put, hp.nf]) (by simp [stepP, PB.prim, primC, PB.element, PB.put]) fun hl hb hf hz => ?_
    exact gUint K base g off pl pb (p ++ s.out) ic rb ins dep Mx w1 hb hf hop' hz _ (Int.emod_nonneg _ (by decide)) (Int.emod_lt_of_pos _ (by decide)) hl
  · refine k16 g n t _ _ _ w _ hE fun w1 h1 => EL (derWrap 10 (bigB (intLen n) n)) w1 _ _ h1 (by simp [stepP, PB.prim, primC, PB.element, PB.put, hp.nf]) (by simp [stepP, PB.prim, primC, PB.element, PB.put]) fun hl hb hf hz => ?_
    exact wEnum g n w1 _ Outc.endsF (gSigned K base g off pl pb (p ++ s.out) ic rb ins dep Mx w1 hb hf hop' hz 10 n hn.1 hn.2 (by decide) (by decide) (by decide) hl)
  · refine k17 g n t _ _ _ w _ hE fun w1 h1 => PL [5, 0] w1 _ _ h1 (by simp [stepP, PB.prim, primC, PB.element, PB.put, hp.nf]) (by simp [stepP, PB.prim, primC, PB.element, PB.put]; rfl) fun hl hb hz => ?_
    exact addNull_any K base g (p ++ s.out) off pl pb ic rb w1 hb hl hz
  · refine k18 g w n t _ _ a3 _ c3 d rfl b3.lt (by omega) w rfl _ hE fun a' c' w1 h1 hb3 hab => EL (derWrap 4 d) w1 _ _ h1 (by simp [stepP, PB.prim, primC, PB.element, PB.put, hp.nf]) (by simp [stepP, PB.prim, primC, PB.element, PB.put]) fun hl hb hf hz => ?_
    exact gOct K base g off pl pb (p ++ s.out) ic rb ins dep Mx w1 hb hf hop' hz a' d.length c' d rfl hb3 (hya w1 a' h1 hab) (by omega) hl
  · refine k19 g w n t _ _ a3 _ c3 d rfl b3.lt (by omega) w rfl _ hE fun a' c' w1 h1 hb3 hab => EL (derWrap 3 (0 :: d)) w1 _ _ h1 (by simp [stepP, PB.prim, primC, PB.element, PB.put, hp.nf]) (by simp [stepP, PB.prim, primC, PB.element, PB.put]) fun hl hb hf hz => ?_
    exact gBits K base g off pl pb (p ++ s.out) ic rb ins dep Mx w1 hb hf hop' hz a' d.length c' d rfl hb3 (hya w1 a' h1 hab) (by omega) hl
  · refine k20 g w n t _ _ a4 _ c4 o rfl b4.lt (by omega) w rfl _ hE fun a' c' w1 h1 hb4 hcc hab => ?_
    have hiff := oidR_iff hsm
    cases hR : oidOk o
    · rw [hR] at hiff
      have hst : (stepP s (.mk 20 n t d o ks)).failed = true := by simp [stepP, PB.prim, primC, hiff, PB.fail]
      obtain ⟨f1, f2, f3⟩ := hfree (.inl hst)
      refine NO w1 _ _ h1 hst ?_
      exact gOidBad K base g off pl pb (p ++ s.out) ic rb ins dep Mx w1 (hp.bld.keep h1) (hp.flag.keep0 h1) hop' (Nat.le_trans hp.sz h1.size) a' o.length c' o rfl hb4 (hya w1 a' h1 hab) (by omega) hR (by rw [cost_mk] at f3; omega) ⟨f1, by omega, f2⟩
    · rw [hR] at hiff
      have hol := oidB_len' o hsm hR
      refine EL (derWrap 6 (oidB o)) w1 _ _ h1 (by simp [stepP, PB.prim, primC, PB.element, PB.put, hp.nf, hiff]) (by simp [stepP, PB.prim, primC, PB.element, PB.put, hiff]) fun hl hb hf hz => ?_
      exact gOid K base g off pl pb (p ++ s.out) ic rb ins dep Mx w1 hb hf hop' hz a' o.length c' o rfl hcc hb4 (hya w1 a' h1 hab) (by omega) hR hsm (by omega) hl
  · refine k21 g n t _ _ _ w _ hE fun ty u w1 h1 => NO w1 _ _ h1 (by simp [stepP, PB.fail]) ?_
    obtain ⟨v, k, _⟩ := hp.bld.keep h1
    exact (setErr g ty u _ _ _ _ _ _ _ w1 k).mono fun e w' h => h.toS.outc
  · refine k22 g n t _ _ _ w _ hE fun w1 h1 => ?_
    obtain ⟨f1, f2, f3⟩ := hfree (.inr (by simp [It.noTB]))
    have hst : stepP s (.mk 22 n t d o ks) = s.back n := by simp [stepP]
    have hnd : ¬ (n < 0 ∨ (s.direct : Int) < n) := by
      intro h
      rw [hst] at hw
      simp [PB.back, h] at hw
    have hb2 : s.back n = { s with out := s.out.take (s.out.length - n.toNat), direct := s.direct - n.toNat } := by unfold PB.back; rw [if_neg hnd]
    obtain ⟨m, rfl⟩ := Int.eq_ofNat_of_zero_le (show 0 ≤ n by omega)
    have hm : m ≤ s.out.length := by have := hp.dir; omega
    rw [cost_mk] at f3
    rw [hst, hb2, resOf_ok (show ({ s with out := s.out.take (s.out.length - (m : Int).toNat), direct := s.direct - (m : Int).toNat } : PB).failed = false from hp.nf)]
    have := gUnwrite K base g off pl pb (p ++ s.out) ic rb ins (dep + 1) Mx w1 m (hp.bld.keep h1) (hp.flag.keep0 h1) (by have := hp.op; omega) f1 (by omega)
    refine this.mono fun e w' h => Outc.from_ h1 ?_
    have e9 : (p ++ s.out).take ((p ++ s.out).length - m) = p ++ s.out.take (s.out.length - (m : Int).toNat) := by
      rw [hxl, show p.length + s.out.length - m = p.length + (s.out.length - m) by omega, List.take_append, List.take_of_length_le (by omega), show p.length + (s.out.length - m) - p.length = s.out.length - m by omega]
      rfl
    rw [e9] at h
    exact h
  · refine k23 g n t _ _ _ w _ fun ty u w1 h1 => ?_
    have hst : (stepP s (.mk 23 n t d o ks)).failed = true := by simp [stepP, PB.fail]
    obtain ⟨f1, f2, f3⟩ := hfree (.inl hst)
    rw [cost_mk] at f3
    rw [resOf_no hst]
    exact Outc.from_ h1 ⟨Fr.refl _ _, .inr ⟨h23 rfl, ⟨ty, u, rfl⟩, [], rb, .inr ⟨_, _, hp.bld.keep h1, hop', by omega⟩, Nat.zero_le _, by simp, .inr (.inl rfl)⟩⟩
  · refine k24 g n t _ _ a5 _ c5 w _ hE fun w1 h1 => ?_
    exact good_value dep hS K base g off pl pb p s ic rb ins B w hd hp 24 n t d o ks a5 c5 b5 hw hfit hc' false (by simpa using hks) (by simp [stepP]) (fun h => by unfold It.noTB at h; simpa using h) w1 h1
  · refine k25 g n t _ _ a5 _ c5 w _ hE fun w1 h1 => ?_
    exact good_value dep hS K base g off pl pb p s ic rb ins B w hd hp 25 n t d o ks a5 c5 b5 hw hfit hc' true (by simpa using hks) (by simp [stepP]) (fun h => by unfold It.noTB at h; simpa using h) w1 h1
end Go.Proofs.Ytdnepnnkpaoaaaa
