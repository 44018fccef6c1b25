/- The contract of (*Builder).AddASN1, whatever the builder's flag and the continuation's outcome; a tag of more bytes is an error. -/
import Derived.Test.YtdnepnnkpaoaaaaGClos
namespace Go.Proofs.Ytdnepnnkpaoaaaa
open Go.RowKit
set_option linter.unusedVariables false

theorem Flag.keep {K : Kd} {w w1 : World} {base g : Nat} {xs : List Int} {off pl : Int} {pa : Bool} {ic : Value} {rb : Option Nat} {ins : Bool} (hfl : Flag w base ic ins) (hg : Bld K w base g xs off pl pa ic rb) (hf : Fr (g :: rb.toList) w w1) : Flag w1 base ic ins :=
  hfl.fr hf (by
    intro i hi hi'
    rcases hfl with ⟨_, h⟩ | ⟨gq, h, hqq, _⟩
    · rw [h] at hi; simp [icB] at hi
    · rw [h] at hi
      simp [icB] at hi
      rw [List.mem_cons, hi] at hi'
      obtain ⟨cs, h0⟩ := hg.blk
      rcases hi' with hi' | hi'
      · exact Blk.ne h0 hqq (by decide) hi'.symm
      · exact hg.row_ne hqq (by decide) (by cases rb with
          | none => simp at hi'
          | some q => simp at hi'; rw [hi']))
theorem Fr.toS {g : Nat} {rb : Option Nat} {ic : Value} {ins : Bool} {w w1 : World} (hf : Fr (g :: rb.toList) w w1) : Fr (fS g rb ic ins) w w1 :=
  hf.mono (fun i hi => by unfold fS; simp at hi ⊢; rcases hi with h | h; exact .inl h; exact .inr (.inl h))
/-- A step that adds and returns. -/
theorem Outc.of_add {K : Kd} {base g off pl : Nat} {pb : Bool} {xs ys : List Int} {ic : Value} {rb : Option Nat} {ins : Bool} {dep M : Nat} {w : World} {e : Ending} {w' : World}
    (hg : Bld K w base g xs off pl pb ic rb) (hfl : Flag w base ic ins) (h : AddPost K base g ys off pl pb ic rb w e w') : Outc K base g off pl pb ic rb ins dep M w (some ys) e w' := by
  obtain ⟨he, rb', h1, h2, h3⟩ := h
  exact ⟨h2.toS, he, ic, rb', h1, hfl.keep hg h2, h3, .inl rfl⟩
theorem Outc.ret {K : Kd} {base g off pl : Nat} {pb : Bool} {ic : Value} {rb : Option Nat} {ins : Bool} {dep M : Nat} {w : World} {res : Option (List Int)} {e : Ending} {w' : World} (hi : ins = false) (h : Outc K base g off pl pb ic rb ins dep M w res e w') : e = .returned (.tuple #[]) := by
  obtain ⟨_, h⟩ := h
  cases res with
  | some ys => exact h.1
  | none =>
    rcases h with h | ⟨h, _⟩
    · exact h.1
    · rw [hi] at h; cases h
/-- Returns, or panics with an error. -/
theorem Outc.ends {K : Kd} {base g off pl : Nat} {pb : Bool} {ic : Value} {rb : Option Nat} {ins : Bool} {dep M : Nat} {w : World} {res : Option (List Int)} {e : Ending} {w' : World} (h : Outc K base g off pl pb ic rb ins dep M w res e w') : e = .returned (.tuple #[]) ∨ Panics e := by
  obtain ⟨_, h⟩ := h
  cases res with
  | some ys => exact .inl h.1
  | none =>
    rcases h with h | ⟨_, h, _⟩
    · exact .inl h.1
    · exact .inr h
theorem Outc.dep_le {K : Kd} {base g off pl : Nat} {pb : Bool} {ic : Value} {rb : Option Nat} {ins : Bool} {dep dep' M : Nat} {w : World} {res : Option (List Int)} {e : Ending} {w' : World} (hd : dep ≤ dep') (h : Outc K base g off pl pb ic rb ins dep M w res e w') : Outc K base g off pl pb ic rb ins dep' M w res e w' := by
  obtain ⟨h1, h⟩ := h
  refine ⟨h1, ?_⟩
  cases res with
  | some ys => exact h
  | none =>
    rcases h with h | ⟨a1, a2, gs, rc, a3, a4, a5, a6⟩
    · exact .inl h
    · exact .inr ⟨a1, a2, gs, rc, a3, Nat.le_trans a4 hd, a5, a6⟩
/-- Steps ahead that turn nothing of what was there. -/
theorem Outc.from_ {K : Kd} {base g off pl : Nat} {pb : Bool} {ic : Value} {rb : Option Nat} {ins : Bool} {dep M : Nat} {w w1 : World} {res : Option (List Int)} {e : Ending} {w' : World} (hf : Fr [] w w1) (h : Outc K base g off pl pb ic rb ins dep M w1 res e w') : Outc K base g off pl pb ic rb ins dep M w res e w' :=
  Outc.after (hf.mono (by simp)) (.inl rfl) (.inl rfl) h
/-- Returned with an error. -/
theorem Outc.bad {K : Kd} {base g off pl : Nat} {pb : Bool} {ic : Value} {rb : Option Nat} {ins : Bool} {dep M : Nat} {w w' : World} (hb : Bad w' g) (hf : Fr [g] w w') : Outc K base g off pl pb ic rb ins dep M w none (.returned (.tuple #[])) w' :=
  ⟨hf.mono (by intro i hi; simp at hi; subst hi; unfold fS; simp), .inl ⟨rfl, hb⟩⟩

theorem and31' {x : Int} (h0 : 0 ≤ x) (h1 : x < 256) : bits .and .u8 x 31 = x % 32 := by
  rw [u8_and x 31 h0 h1 (by omega) (by omega)]
  have h : x.toNat &&& (31 : Int).toNat = x.toNat % 32 := nat_mask5 x.toNat
  rw [h]; omega
theorem derWrap_lenx (t : Int) (c : List Int) : (derWrap t c).length = 2 + extraB c.length + c.length := by
  rw [derWrap_eq, List.length_cons, List.length_append, derLen_len]; omega

set_option maxRecDepth 100000 in
set_option maxHeartbeats 3200000 in
theorem addASN1 (K : Kd) (base g KF p off pl : Nat) (pb : Bool) (tag : Int) (xs : List Int) (res : Option (List Int)) (ic : Value) (rb : Option Nat) (ins : Bool) (dep M : Nat) (w : World)
    (hg : Bld K w base g xs off pl pb ic rb) (hfl : Flag w base ic ins) (hop : off + pl ≤ xs.length) (hb : base ≤ w.heap.size) (ht : tag % 32 ≠ 31) (h0 : 0 ≤ tag) (h1 : tag < 256) (hl0 : xs.length + 2 ≤ K.lim)
    (hl : ∀ out, res = some out → xs.length + (derWrap tag out).length ≤ K.lim ∧ out.length ≤ 16777215)
    (hfx : res = none → K.fix = none ∧ M + 4 * (dep + 1) ≤ 16000000 ∧ 16000000 ≤ K.lim)
    (hK : ∀ args W, (callFunc KF args).run Try.prog W = .ok (.enter KF args) W)
    (hf : ∀ (gc rc : Nat) (icc : Value) (w1 : World), Fr (fS g rb ic false) w w1 → (∀ gq, ins = true → ic = .pointer (some ⟨gq, 0, none⟩) → icc = ic) → Bld K w1 base gc ((xs ++ [tag]) ++ List.replicate 1 0) (xs ++ [tag]).length (1 : Nat) true icc (some rc) → Flag w1 base icc true → base ≤ w1.heap.size → w.heap.size ≤ gc → (rb = some rc ∨ w.heap.size ≤ rc) →
      Calls Try.prog KF #[.pointer (some ⟨gc, 0, none⟩), .pointer (some ⟨p, 0, none⟩)] w1 (Outc K base gc (xs ++ [tag]).length 1 true icc (some rc) true dep M w1 (res.map fun out => (xs ++ [tag]) ++ (List.replicate 1 0 ++ out)))) :
    Calls Try.prog 40 #[.pointer (some ⟨g, 0, none⟩), .int .u8 tag, .func (.func KF) #[] #[.pointer (some ⟨p, 0, none⟩)]] w (Outc K base g off pl pb ic rb ins (dep + 1) M w (res.map fun out => xs ++ derWrap tag out)) := by
  have T := Lib.hid (and31' h0 h1)
  have t1 : (tag % 32 == 31) = false := by simpa using ht
  have A := Lib.hid (addU8_any K base g xs off pl pb ic rb tag w hg (by omega) hb)
  have Hf := Lib.hid hf
  have Hg := Lib.hid hg
  have Hfl := Lib.hid hfl
  have Hl := Lib.hid hl
  have Hfx := Lib.hid hfx
  have hr2 : res.map (fun out => xs ++ derWrap tag out) = res.bind (flushed true 1 (xs ++ [tag])) := by
    cases res with
    | none => rfl
    | some out => simp [flushed, derWrap_eq]
  have c0 : w.cell? ⟨g, 0, none⟩ = some .nilIface := by obtain ⟨v, k, _⟩ := hg; exact k.cell 0
  obtain ⟨Q, hQ⟩ : ∃ Q, Q = Outc K base g off pl pb ic rb ins (dep + 1) M w (res.map fun out => xs ++ derWrap tag out) := ⟨_, rfl⟩
  rw [← hQ]
  have HQ := Lib.hid (hQ.trans (by rw [hr2]))
  clear hf hg ht hfl hl hfx hr2 hQ
  go_enter Try.func40, Try.ntmps40
  go_wp2_with fail
  refine A.out.mono ?_
  rintro e w1 ⟨rfl, rb1, b1, f1, hr1⟩
  have fl1 := Hfl.out.keep Hg.out f1
  have hpl : (xs ++ [tag]).length = xs.length + 1 := by simp
  have hFf : Fr (fS g rb ic false) w w1 := f1.toS
  have L := Lib.hid (addLP K base g KF p 1 off pl true pb (xs ++ [tag]) res ic rb1 ins dep M #[.int .u8 0] w1 b1 fl1 (by rw [hpl]; omega) (Nat.le_trans hb f1.size) (by omega) (by omega) (fun _ => rfl) (by rw [hpl]; omega)
    (fun out ho => by
      obtain ⟨a1, a2⟩ := Hl.out out ho
      rw [derWrap_lenx] at a1
      rw [hpl]
      exact ⟨by omega, fun _ => by omega, a2⟩) Hfx.out (fun _ => by kernel_rfl) rfl hK
    (fun gc rc icc wa fa hicc ba fla hba hgc hrc => Hf.out gc rc icc wa (hFf.trans fa (fS_sub hr1 (.inl rfl))) hicc ba fla hba (Nat.le_trans f1.size hgc) (by
      rcases hrc with h | h
      · rcases hr1 with h1 | ⟨k, h1, hk⟩
        · exact .inl (by rw [← h1, h])
        · rw [h] at h1; injection h1 with h1; subst h1; exact .inr hk
      · exact .inr (Nat.le_trans f1.size h))))
  have Hr1 := Lib.hid hr1
  have Hf1 := Lib.hid f1
  clear b1 f1 hr1 hpl fl1 hFf
  go_wp2_with fail
  refine L.out.mono ?_
  intro e w2 hq
  have hq' := Lib.hid (Outc.after (K := K) Hf1.out.toS Hr1.out (.inl rfl) hq)
  rcases hq.ends with rfl | ⟨t, u, rfl⟩
  · clear hq
    go_wp2_with fail
    go_end0
    rw [HQ.out]
    exact hq'.out
  · refine ⟨rfl, ?_⟩
    rw [HQ.out]
    exact hq'.out

/-- A tag of more bytes. -/
theorem addASN1_tag (K : Kd) (base g off pl : Nat) (pb : Bool) (tag : Int) (xs : List Int) (fv : Value) (ic : Value) (rb : Option Nat) (ins : Bool) (dep M : Nat) (w : World)
    (hg : Bld K w base g xs off pl pb ic rb) (ht : tag % 32 = 31) (h0 : 0 ≤ tag) (h1 : tag < 256) :
    Calls Try.prog 40 #[.pointer (some ⟨g, 0, none⟩), .int .u8 tag, fv] w (Outc K base g off pl pb ic rb ins dep M w none) := by
  have T := Lib.hid (and31' h0 h1)
  have t1 : (tag % 32 == 31) = true := by simpa using ht
  obtain ⟨v, k, _⟩ := hg
  have c0 : w.cell? ⟨g, 0, none⟩ = some .nilIface := k.cell 0
  have Hk := Lib.hid k
  clear k ht
  go_enter Try.func40, Try.ntmps40
  go_wp2_with fail
  refine (new_err _ w).mono ?_
  rintro e w1 ⟨u, rfl, f1⟩
  have k1 := f1.blk Hk.out (by simp)
  have d0 : w1.cell? ⟨g, 0, none⟩ = some .nilIface := k1.cell 0
  have df0 := k1.frozen 0
  have HK1 := Lib.hid k1
  have HF1 := Lib.hid f1
  clear k1 f1
  go_wp2_with fail
  first | go_end0 | refine bodyPost_ret (results_none rfl _ _ _) rfl ?_
  exact Outc.bad ⟨_, _, _, _, _, _, _, _, HK1.out.set_ 0 _⟩ ((HF1.out.mono (by simp)).set_ (p := ⟨g, 0, none⟩) (.inl (by simp)) _)
end Go.Proofs.Ytdnepnnkpaoaaaa
