/- The contracts of the reference's within, value, run, by induction; and of its Build. -/
import Derived.Test.YtdnepnnkpaoaaaaSBStep
import Derived.Test.YtdnepnnkpaoaaaaMD
namespace Go.Proofs.Ytdnepnnkpaoaaaa
open Go.RowKit
set_option linter.unusedVariables false

/-- The contract of run, for lists that cost less than N. -/
def SRun (N : Nat) : Prop := ∀ (base g : Nat) (s : PB) (rb : Option Nat) (w : World) (its : List It) (a : Option Addr) (n c B dep : Nat) (ins : Bool),
  costs its < N → SB w base g s rb → ItsIn w B a its → its.length = n → okIs ins dep its = true → s.out.length + costs its ≤ Mx → s.direct ≤ s.out.length → B ≤ base → B ≤ g → base ≤ w.heap.size →
    Calls Try.prog 30 #[.pointer (some ⟨g, 0, none⟩), .slice a n c] w (SPost base g (runP s its) rb w)

set_option maxRecDepth 100000 in
set_option maxHeartbeats 1600000 in
theorem sWithin (N : Nat) (ih : SRun N) (base g : Nat) (s : PB) (rb : Option Nat) (W : World) (ks : List It) (a : Option Addr) (n c B dep : Nat) (ins : Bool)
    (hc : costs ks < N) (hg : SB W base g s rb) (hi : ItsIn W B a ks) (hn : ks.length = n) (hok : okIs ins dep ks = true) (hM : costs ks ≤ Mx) (hB : B ≤ base) (hBg : B ≤ g) (hb : base ≤ W.heap.size) (hf : s.failed = false) (hw : s.wrong = false) :
    WithinG g a n c (runP PB.new ks).out W (fun w2 => SB w2 base g (s.absorb (runP PB.new ks)) rb ∧ Fr [g] W w2) := by
  intro w hfw
  have hgw := hg.keep hfw
  have hiw := hi.keep (hfw.cells (by omega) (by simp))
  have hbw := Nat.le_trans hb hfw.size
  obtain ⟨w1, hw1⟩ : ∃ w1, w1 = w.alloc (.cells #[.slice none 0 0, .int .i64 0, .bool false, .bool false] 55) := ⟨_, rfl⟩
  have F1 : Fr [] w w1 := by rw [hw1]; exact (Fr.refl [] w).alloc _
  have B1 : SB w1 w.heap.size w.heap.size PB.new none := by rw [hw1]; exact ⟨_, Blk.new _ _ _, OwnB.nil _ _ _, rfl⟩
  have S := Lib.hid (ih w.heap.size w.heap.size PB.new none w1 ks a n c B dep ins hc B1 (hiw.keep (F1.cells (by omega) (by simp))) hn hok (by have : PB.new.out.length = 0 := rfl; omega) (Nat.le_refl _) (by omega) (by omega) F1.size)
  have hgl : g < w.heap.size := by obtain ⟨_, h1, _⟩ := hgw; exact h1.lt
  have HG := Lib.hid hgw
  have HS := Lib.hid (show Fr [] W w from hfw)
  have HF1 := Lib.hid F1
  have HW1 := Lib.hid hw1
  have Hf := Lib.hid hf
  have Hw := Lib.hid hw
  obtain ⟨I, hI⟩ : ∃ I, I = runP PB.new ks := ⟨_, rfl⟩
  rw [← hI] at S ⊢
  clear hg hi hn hok hgw hiw F1 B1 hI hfw hw1 hf hw
  obtain ⟨q, hq⟩ : ∃ q, q = w.heap.size := ⟨_, rfl⟩
  rw [← hq] at S
  have Hq := Lib.hid hq
  have hne : ¬ g = q := by omega
  have hne2 : ¬ q = g := by omega
  clear hq
  go_enter Try.func64, Try.ntmps64
  go_wp2_with fail
  rw [← HW1.out, ← Hq.out]
  refine S.out.mono ?_
  rintro e w2 ⟨rfl, rb2, T2, F2, R2⟩
  have F02 : Fr [] w w2 := HF1.out.trans F2 (fun i hi => by right; simp at hi; have := Hq.out; omega)
  have G2 := HG.out.keep F02
  obtain ⟨⟨ai, ci, i0, i1, i2, i3, i4⟩, _, i5, i6, i7⟩ := T2.cells
  obtain ⟨_, _, o2, o3, o4⟩ := G2.cells
  rw [Hf.out] at o2
  rw [Hw.out] at o3
  have f2 := o4 2
  have f3 := o4 3
  have HI3 := Lib.hid i3
  have HG2 := Lib.hid G2
  have HF2 := Lib.hid F02
  obtain ⟨L, hL⟩ : ∃ L, L = I.out.length := ⟨_, rfl⟩
  rw [← hL] at i0
  have HL := Lib.hid hL
  clear T2 F2 R2 F02 G2 i1 i2 i3 i4 i7 o4 hL
  go_wp2_with fail
  go_ret
  rw [HL.out]
  refine ⟨ai, ci, rfl, ?_, (((HF2.out.mono (S' := [g]) (by simp)).set_ (.inl (by simp)) _).set_ (.inl (by simp)) _), ?_, ?_⟩
  · have hb9 := (HI3.out.fr (S := [g]) (((Fr.refl [g] w2).set_ (p := ⟨g, 2, none⟩) (.inl (by simp)) (.bool I.failed)).set_ (p := ⟨g, 3, none⟩) (.inl (by simp)) (.bool I.wrong)) (fun k hk e => by
      simp at e; subst e
      have := (HI3.out.lt _ hk).1
      have := Hq.out
      omega)).bin rfl
    exact hb9
  · have := (HG2.out.set2 I.failed).set3 I.wrong
    have e : ({ ({ s with failed := I.failed } : PB) with wrong := I.wrong } : PB) = s.absorb I := by unfold PB.absorb; rw [Hf.out, Hw.out]; simp
    rw [e] at this
    exact this
  · exact (((HS.out.mono (S' := [g]) (by simp)).trans (HF2.out.mono (S' := [g]) (by simp)) (fun i hi => .inl hi)).set_ (p := ⟨g, 2, none⟩) (.inl (by simp)) (.bool I.failed)).set_ (p := ⟨g, 3, none⟩) (.inl (by simp)) (.bool I.wrong)

set_option maxRecDepth 100000 in
set_option maxHeartbeats 1600000 in
theorem sValue (N : Nat) (ih : SRun N) (base g : Nat) (s : PB) (rb : Option Nat) (w : World) (kd n t : Int) (dv ov : Value) (ks : List It) (a : Option Addr) (m c B dep : Nat) (ins : Bool)
    (hc : costs ks < N) (hg : SB w base g s rb) (hi : ItsIn w B a ks) (hn : ks.length = m) (hok : okIs ins dep ks = true) (hM : s.out.length + costs ks ≤ Mx) (hd : s.direct ≤ s.out.length) (hB : B ≤ base) (hBg : B ≤ g) (hb : base ≤ w.heap.size) (hk : kd = 24 ∨ kd = 25) :
    Calls Try.prog 68 #[.pointer (some ⟨g, 0, none⟩), .agg #[.int .i64 kd, .int .i64 n, .int .i64 t, dv, ov, .slice a m c]] w (SPost base g ((runP s ks).bad (kd == 25)) rb w) := by
  obtain ⟨w1, hw1⟩ : ∃ w1, w1 = w.alloc (.cells #[.int .i64 kd, .int .i64 n, .int .i64 t, dv, ov, .slice a m c] 45) := ⟨_, rfl⟩
  have F1 : Fr [] w w1 := by rw [hw1]; exact (Fr.refl [] w).alloc _
  have b1 : Blk w1 w.heap.size 45 #[.int .i64 kd, .int .i64 n, .int .i64 t, dv, ov, .slice a m c] := by rw [hw1]; exact Blk.new _ _ _
  have S := Lib.hid (ih base g s rb w1 ks a m c B dep ins hc (hg.keep F1) (hi.keep (F1.cells (by omega) (by simp))) hn hok hM hd hB hBg (Nat.le_trans hb F1.size))
  have hgl : g < w.heap.size := by obtain ⟨_, h1, _⟩ := hg; exact h1.lt
  have hrl : ∀ k, rb = some k → k < w.heap.size := by
    intro k hk
    obtain ⟨v, _, h2, h3⟩ := hg
    exact (h2.lt k (by rw [h3, hk])).2
  have HF1 := Lib.hid F1
  have HW1 := Lib.hid hw1
  have HB1 := Lib.hid b1
  have Hrl := Lib.hid hrl
  obtain ⟨I, hI⟩ : ∃ I, I = runP s ks := ⟨_, rfl⟩
  rw [← hI] at S ⊢
  clear hg hi hn hok F1 hI hw1 b1 hrl
  obtain ⟨q, hq⟩ : ∃ q, q = w.heap.size := ⟨_, rfl⟩
  have Hq := Lib.hid hq
  rw [← hq] at HB1
  have hne : ¬ g = q := by omega
  have hne2 : ¬ q = g := by omega
  clear hq
  go_enter Try.func68, Try.ntmps68
  go_wp2_with fail
  rw [← HW1.out, ← Hq.out]
  refine S.out.mono ?_
  rintro e w2 ⟨rfl, rb2, T2, F2, R2⟩
  have T2' := Lib.hid T2
  have R2' := Lib.hid R2
  have F2' := Lib.hid F2
  have b2 := F2.blk HB1.out (by
    rw [List.mem_cons, not_or]
    refine ⟨hne2, fun h => ?_⟩
    cases rb with
    | none => simp at h
    | some k => simp at h; have := Hrl.out k rfl; have := Hq.out; omega)
  have p0 : w2.cell? ⟨q, 0, none⟩ = some (.int .i64 kd) := b2.cell 0
  obtain ⟨_, _, o2, _, o4⟩ := T2.cells
  have f2 := o4 2
  have EF := Lib.hid (fun b => show SPost base g { I with failed := b } rb w (.returned (.tuple #[])) (w2.setCell ⟨g, 2, none⟩ (.bool b)) from
    SPost.from_ (HF1.out.mono (by simp)) ⟨rfl, rb2, T2'.out.set2 b, F2'.out.set_ (.inl (by simp)) _, R2'.out⟩)
  clear T2 F2 R2 o4 b2
  have hcase : (I.failed = true ∧ I.bad (kd == 25) = { I with failed := true }) ∨ (I.failed = false ∧ kd = 24 ∧ I.bad (kd == 25) = { I with failed := false }) ∨ (I.failed = false ∧ kd = 25 ∧ I.bad (kd == 25) = { I with failed := true }) := by
    unfold PB.bad
    cases h : I.failed
    · right
      rcases hk with rfl | rfl
      · left; exact ⟨rfl, rfl, by simp⟩
      · right; exact ⟨rfl, rfl, by simp⟩
    · left; exact ⟨rfl, by simp⟩
  clear hk
  rcases hcase with ⟨h1, h2⟩ | ⟨h1, rfl, h2⟩ | ⟨h1, rfl, h2⟩
  all_goals (
    have H2 := Lib.hid h2
    rw [h1] at o2
    clear h1 h2
    go_wp2_with fail
    go_end0
    rw [H2.out]
    exact EF.out _)

/-- What holds between two steps. -/
def InvR (base g : Nat) (s : PB) (rb : Option Nat) (w : World) (its : List It) (k : Nat) (wr : World) : Prop :=
  ∃ rb', SB wr base g (runP s (its.take k)) rb' ∧ Fr (g :: rb.toList) w wr ∧ (rb' = rb ∨ ∃ q, rb' = some q ∧ w.heap.size ≤ q)
theorem InvR.next {base g : Nat} {s' : PB} {rb rb' : Option Nat} {w wr : World} {e : Ending} {w' : World} (hF : Fr (g :: rb.toList) w wr) (hr : rb' = rb ∨ ∃ q, rb' = some q ∧ w.heap.size ≤ q) (h : SPost base g s' rb' wr e w') :
    SPost base g s' rb w e w' := by
  obtain ⟨he, rb2, h1, h2, h3⟩ := h
  refine ⟨he, rb2, h1, hF.trans h2 (fun i hi => ?_), ?_⟩
  · simp only [List.mem_cons] at hi ⊢
    rcases hi with rfl | hi
    · exact .inl (.inl rfl)
    · rcases hr with rfl | ⟨q, rfl, hq⟩
      · exact .inl (.inr hi)
      · simp at hi; subst hi; exact .inr hq
  · rcases h3 with rfl | ⟨q, rfl, hq⟩
    · exact hr
    · exact .inr ⟨q, rfl, Nat.le_trans hF.size hq⟩

set_option maxHeartbeats 1600000 in
theorem sStep (N : Nat) (ih : SRun N) (base g : Nat) (s : PB) (rb : Option Nat) (w : World) (x : It) (v : Value) (B dep : Nat) (ins : Bool)
    (hc : x.cost ≤ N) (hg : SB w base g s rb) (hv : ItV w B x v) (hok : okI ins dep x = true) (hM : s.out.length + x.cost ≤ Mx) (hd : s.direct ≤ s.out.length) (hB : B ≤ base) (hBg : B ≤ g) (hb : base ≤ w.heap.size) (hf : s.failed = false) (hw : s.wrong = false) :
    Calls Try.prog 44 #[.pointer (some ⟨g, 0, none⟩), v] w (SPost base g (stepP s x) rb w) := by
  have hMx : Mx = 2000000 := rfl
  obtain ⟨kd, n, t, d, o, ks⟩ := x
  obtain ⟨hn, a3, c3, a4, c4, a5, c5, rfl, ⟨l3, m3, b3, y3⟩, ⟨l4, m4, b4⟩, ⟨l5, m5, b5⟩⟩ := hv
  obtain ⟨k0, k25, t0, t1, h23, h4, hs, hdep, hks⟩ := okI_mk hok
  rw [cost_mk] at hc hM
  have hgl : g < w.heap.size := by obtain ⟨_, h1, _⟩ := hg; exact h1.lt
  have b3' := b3.more (show B ≤ w.heap.size by omega)
  have b4' := b4.more (show B ≤ w.heap.size by omega)
  have hru := EndsU.post (base := base) (g := g) (s := stepP s (.mk kd n t d o ks)) (rb := rb) (w := w)
  have hrl := run_len _ _ PB.new ks hks
  have hnew : PB.new.out.length = 0 := rfl
  have WR : ∀ (C : List Int), stepP s (.mk kd n t d o ks) = s.write C → C.length ≤ 8 + d.length → WriteG g C w (SPost base g (stepP s (.mk kd n t d o ks)) rb w) := by
    intro C hC hlen a' m c' w1 hf1 hbn hm
    rw [hC]
    exact (sWrite base g s rb C a' m c' w1 (hg.keep hf1) hm hbn (by omega) hd (Nat.le_trans hb hf1.size)).mono fun e w' h => SPost.from_ (hf1.mono (by simp)) h
  have FL : ∀ w1, Fr [] w w1 → stepP s (.mk kd n t d o ks) = s.fail → SPost base g (stepP s (.mk kd n t d o ks)) rb w (.returned (.tuple #[])) (w1.setCell ⟨g, 2, none⟩ (.bool true)) := by
    intro w1 hf1 h
    rw [h]
    exact SPost.from_ (hf1.mono (by simp)) ((hg.keep hf1).post2 true)
  have WI := sWithin N ih base g s rb w ks a5 ks.length c5 B (dep - 1) _ (by omega) hg b5 rfl hks (by omega) hB hBg hb hf hw
  have FRW : ∀ (s' : PB) (w2 : World) (e : Ending) (w' : World), Fr [g] w w2 → SPost base g s' rb w2 e w' → SPost base g s' rb w e w' := fun s' w2 e w' hf h => SPost.from_ (hf.mono (by intro i hi; simp at hi; subst hi; simp)) h
  have PX : ∀ (k : Nat) (kk : Int), ((k = 1 ∧ kk = 1) ∨ (k = 2 ∧ kk = 2) ∨ (k = 3 ∧ kk = 3) ∨ (k = 4 ∧ kk = 4)) → stepP s (.mk kd n t d o ks) = (s.absorb (runP PB.new ks)).prefixed (runP PB.new ks).out k → ∀ w2 a c, (SB w2 base g (s.absorb (runP PB.new ks)) rb ∧ Fr [g] w w2) → BIn w2 w2.heap.size a (runP PB.new ks).out →
      Calls Try.prog 63 #[.pointer (some ⟨g, 0, none⟩), .slice a (runP PB.new ks).out.length c, .int .i64 kk] w2 (SPost base g (stepP s (.mk kd n t d o ks)) rb w) := by
    intro k kk hkk h w2 a c h2 hbn
    rw [h]
    exact (sPrefixed base g _ rb k kk _ a _ c w2 h2.1 hkk rfl hbn (by show s.out.length + _ ≤ _; omega) (Nat.le_trans hb h2.2.size)).mono fun e w' h => FRW _ w2 e w' h2.2 h
  have hcase : kd = 0 ∨ kd = 1 ∨ kd = 2 ∨ kd = 3 ∨ kd = 4 ∨ kd = 5 ∨ kd = 6 ∨ kd = 7 ∨ kd = 8 ∨ kd = 9 ∨ kd = 10 ∨ kd = 11 ∨ (12 ≤ kd ∧ kd ≤ 20) ∨ kd = 21 ∨ kd = 22 ∨ kd = 23 ∨ kd = 24 ∨ kd = 25 := by omega
  rcases hcase with rfl | rfl | rfl | rfl | rfl | rfl | rfl | rfl | rfl | rfl | rfl | rfl | ⟨h12, h20⟩ | rfl | rfl | rfl | rfl | rfl
  · exact st0 g n t _ _ _ w _ hru (WR _ (by simp [stepP, numB]) (by rw [bigB_len]; omega))
  · exact st1 g n t _ _ _ w _ hru (WR _ (by simp [stepP, numB]) (by rw [bigB_len]; omega))
  · exact st2 g n t _ _ _ w _ hru (WR _ (by simp [stepP, numB]) (by rw [bigB_len]; omega))
  · exact st3 g n t _ _ _ w _ hru (WR _ (by simp [stepP, numB]) (by rw [bigB_len]; omega))
  · exact st4 g n t _ _ _ w _ hru (WR _ (by simp [stepP, numB]) (by rw [bigB_len]; omega))
  · exact st5 g n t _ _ _ w _ hru (WR _ (by simp [stepP, numB]) (by rw [bigB_len]; omega))
  · exact st6 g n t d a3 _ c3 _ _ w _ hru rfl b3' (WR d (by simp [stepP]) (by omega))
  · exact st7 g n t _ _ a5 _ c5 w _ hru hgl _ _ WI (fun w2 a c h2 hbn => PX 1 1 (by omega) (by simp [stepP]) w2 a c h2 hbn)
  · exact st8 g n t _ _ a5 _ c5 w _ hru hgl _ _ WI (fun w2 a c h2 hbn => PX 2 2 (by omega) (by simp [stepP]) w2 a c h2 hbn)
  · exact st9 g n t _ _ a5 _ c5 w _ hru hgl _ _ WI (fun w2 a c h2 hbn => PX 3 3 (by omega) (by simp [stepP]) w2 a c h2 hbn)
  · exact st10 g n t _ _ a5 _ c5 w _ hru hgl _ _ WI (fun w2 a c h2 hbn => PX 4 4 (by omega) (by simp [stepP]) w2 a c h2 hbn)
  · refine st11 g n t _ _ a5 _ c5 w _ hru hgl _ _ WI (fun w2 a c h2 hbn => ?_)
    have e : stepP s (.mk 11 n t d o ks) = (s.absorb (runP PB.new ks)).element t (runP PB.new ks).out := by simp [stepP]
    rw [e]
    exact (sElement base g _ rb t _ a _ c w2 h2.1 t0 (by omega) rfl hbn (by show s.out.length + _ ≤ _; omega) (Nat.le_trans hb h2.2.size)).mono fun e w' h => FRW _ w2 e w' h2.2 h
  · refine stPrim g kd n t _ _ _ w _ hru h12 h20 fun w1 hf1 => ?_
    have e : stepP s (.mk kd n t d o ks) = s.prim kd n t d o := by
      unfold stepP
      rw [if_neg (by omega), if_neg (by omega), if_neg (by omega), if_neg (by omega), if_pos (by omega)]
    rw [e]
    exact (sPrim base g s rb kd n t d o a3 a4 c3 c4 _ w1 (hg.keep hf1) h12 h20 hn t0 t1 hs ((hf1.bin b3' (by simp)).lt) ((hf1.iin b4' (by simp)).lt) (by omega) (Nat.le_trans hb hf1.size)).mono fun e w' h => SPost.from_ (hf1.mono (by simp)) h
  · exact st21 g n t _ _ _ w _ hru base s rb hg fun w1 hf1 => FL w1 hf1 (by simp [stepP])
  · refine st22 g n t _ _ _ w _ hru fun w1 hf1 => ?_
    have e : stepP s (.mk 22 n t d o ks) = s.back n := by simp [stepP]
    rw [e]
    exact (sBack base g s rb n w1 (hg.keep hf1) hn.1 hn.2 (by omega) hd).mono fun e w' h => SPost.from_ (hf1.mono (by simp)) h
  · exact st23 g n t _ _ _ w _ hru base s rb hg fun w1 hf1 => FL w1 hf1 (by simp [stepP])
  · refine st24 g n t _ _ _ w _ hru fun w1 hf1 => ?_
    have e : stepP s (.mk 24 n t d o ks) = (runP s ks).bad ((24 : Int) == 25) := by simp [stepP, PB.bad]
    rw [e]
    exact (sValue N ih base g s rb w1 24 n t _ _ ks a5 _ c5 B (dep - 1) _ (by omega) (hg.keep hf1) (b5.keep (hf1.cells (by omega) (by simp))) rfl hks (by omega) hd hB hBg (Nat.le_trans hb hf1.size) (.inl rfl)).mono fun e w' h => SPost.from_ (hf1.mono (by simp)) h
  · refine st25 g n t _ _ _ w _ hru fun w1 hf1 => ?_
    have e : stepP s (.mk 25 n t d o ks) = (runP s ks).bad ((25 : Int) == 25) := by simp [stepP, PB.bad, PB.fail]
    rw [e]
    exact (sValue N ih base g s rb w1 25 n t _ _ ks a5 _ c5 B (dep - 1) _ (by omega) (hg.keep hf1) (b5.keep (hf1.cells (by omega) (by simp))) rfl hks (by omega) hd hB hBg (Nat.le_trans hb hf1.size) (.inr rfl)).mono fun e w' h => SPost.from_ (hf1.mono (by simp)) h

set_option maxRecDepth 100000 in
set_option maxHeartbeats 3200000 in
theorem srun : ∀ N, SRun N := by
  intro N
  induction N with
  | zero => intro base g s rb w its a n c B dep ins hc; omega
  | succ N ih =>
    intro base g s rb w its a n c B dep ins hc hg hi hn hok hM hd hB hBg hb
    have hMx : Mx = 2000000 := rfl
    have hlc := len_costs its
    have hnm : n ≤ 1000000 := by omega
    obtain ⟨w0, hw0⟩ : ∃ w0, w0 = w := ⟨_, rfl⟩
    have Hw0 := Lib.hid hw0
    have Hn := Lib.hid hn
    have HI := Lib.hid hi
    have Hrb : ∀ k, rb = some k → B ≤ k := by
      intro k hk
      obtain ⟨v, _, h2, h3⟩ := hg
      exact Nat.le_trans hB (h2.lt k (by rw [h3, hk])).1
    have HSge : ∀ i ∈ g :: rb.toList, B ≤ i := by
      intro i hi
      simp only [List.mem_cons] at hi
      rcases hi with rfl | hi
      · exact hBg
      · cases rb with
        | none => simp at hi
        | some q => simp at hi; subst hi; exact Hrb _ rfl
    have HG := Lib.hid hg
    have HS := Lib.hid HSge
    have ST := Lib.hid (fun (s' : PB) (rb' : Option Nat) (w' : World) (x : It) (v : Value) (k : Nat) (hx : its[k]? = some x) (hg' : SB w' base g s' rb') (hv : ItV w' B x v) (hM' : s'.out.length + x.cost ≤ Mx) (hd' : s'.direct ≤ s'.out.length) (hb' : base ≤ w'.heap.size) (hf : s'.failed = false) (hw : s'.wrong = false) =>
      sStep N ih base g s' rb' w' x v B dep ins (by have := cost_get hx; omega) hg' hv (okIs_get hok hx) hM' hd' hB hBg hb' hf hw)
    have HL := Lib.hid (fun k => run_len ins dep s (its.take k) (okIs_take k hok))
    have HD := Lib.hid (fun k => run_dir s (its.take k) hd)
    have HM := Lib.hid hM
    have Hb := Lib.hid hb
    have HBb := Lib.hid (show B ≤ w0.heap.size by rw [hw0]; omega)
    clear hg hi hn hok hM hd hB hBg hw0 hlc hMx hc Hrb HSge ih hb
    go_enter Try.func30, Try.ntmps30
    go_wp2_with fail
    go_loopw [4] (fun i wr => ∃ k : Nat, k ≤ n ∧ i = .int .i64 k ∧ Hid (InvR base g s rb w0 its k wr)) (fun i _ => n - (intOf i).toNat)
    case atStart => exact ⟨0, Nat.zero_le _, rfl, Lib.hid ⟨rb, by rw [List.take_zero]; simpa [runP] using HG.out, by rw [Hw0.out]; exact Fr.refl _ _, .inl rfl⟩⟩
    case round =>
      obtain ⟨k, hk, rfl, hinv⟩ := hrel
      obtain ⟨rb', hs', hF, hr⟩ := hinv.out
      have HF := Lib.hid hF
      have HR := Lib.hid hr
      have HS' := Lib.hid hs'
      obtain ⟨_, _, o2, o3, _⟩ := hs'.cells
      obtain ⟨sk, hsk⟩ : ∃ sk, sk = runP s (its.take k) := ⟨_, rfl⟩
      rw [← hsk] at o2 o3 HS'
      have Hsk := Lib.hid hsk
      clear hF hr hs' hsk
      have END : Hid (sk = runP s its → SPost base g (runP s its) rb w (.returned (.tuple #[])) wr) := Lib.hid (fun h => by
        rw [← h, ← Hw0.out]
        exact ⟨rfl, rb', HS'.out, HF.out, HR.out⟩)
      by_cases hlt : k < n
      · have hlt' : (k : Int) < (n : Int) := by omega
        have hcase : (sk.failed = true) ∨ (sk.failed = false ∧ sk.wrong = true) ∨ (sk.failed = false ∧ sk.wrong = false) := by
          cases sk.failed <;> cases sk.wrong <;> simp
        rcases hcase with h1 | ⟨h1, h2⟩ | ⟨h1, h2⟩
        · rw [h1] at o2
          have H1 := Lib.hid h1
          clear h1
          go_wp2_with fail
          go_end0
          exact END.out (by rw [run_split s its k, ← Hsk.out, run_failed _ _ H1.out])
        · rw [h1] at o2
          rw [h2] at o3
          have H2 := Lib.hid h2
          clear h1 h2
          go_wp2_with fail
          go_end0
          exact END.out (by rw [run_split s its k, ← Hsk.out, run_wrong _ _ H2.out])
        · have H1 := Lib.hid h1
          have H2 := Lib.hid h2
          rw [h1] at o2
          rw [h2] at o3
          have hiw := HI.out.keep (w' := wr) (fun p hp => by have := HF.out.cells HBb.out HS.out p hp; rwa [Hw0.out] at this)
          obtain ⟨b, o, kd, nn, t, d, oi, ks, a3, c3, a4, c4, a5, c5, rfl, hb', hx, g0, g1, g2, g3, g4, g5, gn, h3, h4, h5⟩ := hiw.at_ (k := k) (by rw [Hn.out]; exact hlt)
          have Hx := Lib.hid hx
          have hcostx : costs (its.take k) + (It.mk kd nn t d oi ks).cost ≤ costs its := by
            have := HD.out 0
            clear this
            have hgen : ∀ (xs : List It) (k : Nat) (x : It), xs[k]? = some x → costs (xs.take k) + x.cost ≤ costs xs := by
              intro xs
              induction xs with
              | nil => intro k x h; simp at h
              | cons y ys ih =>
                intro k x h
                cases k with
                | zero => simp at h; subst h; rw [List.take_zero]; unfold costs; omega
                | succ k =>
                  simp only [List.getElem?_cons_succ] at h
                  rw [List.take_succ_cons]
                  unfold costs
                  have := ih k x h
                  omega
            exact hgen its k _ hx
          have hC := Lib.hid (ST.out sk rb' wr _ (.agg #[.int .i64 kd, .int .i64 nn, .int .i64 t, .slice a3 d.length c3, .slice a4 oi.length c4, .slice a5 ks.length c5]) k hx HS'.out ⟨gn, a3, c3, a4, c4, a5, c5, rfl, h3, h4, h5⟩
            (by have h8 := HL.out k; have h9 := HM.out; rw [← Hsk.out] at h8; omega) (by have h8 := HD.out k; rw [← Hsk.out] at h8; exact h8) (Nat.le_trans (by rw [Hw0.out]; exact Hb.out) HF.out.size) h1 h2)
          obtain ⟨N3, hN3⟩ : ∃ N3, N3 = d.length := ⟨_, rfl⟩
          obtain ⟨N4, hN4⟩ : ∃ N4, N4 = oi.length := ⟨_, rfl⟩
          obtain ⟨N5, hN5⟩ : ∃ N5, N5 = ks.length := ⟨_, rfl⟩
          rw [← hN3] at g3 hC
          rw [← hN4] at g4 hC
          rw [← hN5] at g5 hC
          clear hN3 hN4 hN5 h3 h4 h5 hx gn hcostx hiw h1 h2
          go_wp2_with fail
          refine hC.out.mono ?_
          rintro e w9 hq
          obtain ⟨rfl, _⟩ := id hq
          have hq' := Lib.hid hq
          clear hq
          go_wp2_with fail
          go_roundw
          case rel =>
            refine ⟨k + 1, by omega, by go_num, Lib.hid ?_⟩
            obtain ⟨_, rb9, q1, q2, q3⟩ := InvR.next HF.out HR.out hq'.out
            refine ⟨rb9, ?_, q2, q3⟩
            rw [take_succ_run Hx.out (by rw [← Hsk.out]; exact H1.out) (by rw [← Hsk.out]; exact H2.out), ← Hsk.out]
            exact q1
          case measure => simp [intOf]; omega
      · go_wp2_with fail
        go_end0
        exact END.out (by rw [Hsk.out, List.take_of_length_le (by rw [Hn.out]; omega)])
end Go.Proofs.Ytdnepnnkpaoaaaa

namespace Go.Proofs.Ytdnepnnkpaoaaaa
open Go.RowKit
set_option linter.unusedVariables false

/-- What the reference's Build leaves. -/
def SBuilt (w : World) (s : PB) (e : Ending) (w' : World) : Prop := Fr [] w w' ∧
  ((s.failed = false ∧ s.wrong = false ∧ ∃ a c, e = .returned (.tuple #[.slice a s.out.length c, .bool true, .bool true]) ∧ s.out.length ≤ c ∧ BIn w' w'.heap.size a s.out) ∨
   ((s.failed = true ∨ s.wrong = true) ∧ e = .returned (.tuple #[.slice none 0 0, .bool false, .bool (!s.wrong)])))

set_option maxRecDepth 100000 in
set_option maxHeartbeats 1600000 in
theorem specBuild (a : Option Addr) (n c : Nat) (its : List It) (w : World) (hn : its.length = n) (hi : ItsIn w w.heap.size a its) (hr : RightP its) :
    Calls Try.prog 13 #[.slice a n c] w (SBuilt w (runP PB.new its)) := by
  obtain ⟨hok, hc⟩ := hr
  have hMx : Mx = 2000000 := rfl
  obtain ⟨w1, hw1⟩ : ∃ w1, w1 = w.alloc (.cells #[.slice none 0 0, .int .i64 0, .bool false, .bool false] 55) := ⟨_, rfl⟩
  have F1 : Fr [] w w1 := by rw [hw1]; exact (Fr.refl [] w).alloc _
  have B1 : SB w1 w.heap.size w.heap.size PB.new none := by rw [hw1]; exact ⟨_, Blk.new _ _ _, OwnB.nil _ _ _, rfl⟩
  have S := Lib.hid (srun (costs its + 1) w.heap.size w.heap.size PB.new none w1 its a n c w.heap.size 12 false (by omega) B1 (hi.keep (F1.cells (Nat.le_refl _) (by simp))) hn hok (by have : PB.new.out.length = 0 := rfl; omega) (Nat.le_refl _) (Nat.le_refl _) (Nat.le_refl _) F1.size)
  have HF1 := Lib.hid F1
  have HW1 := Lib.hid hw1
  obtain ⟨I, hI⟩ : ∃ I, I = runP PB.new its := ⟨_, rfl⟩
  rw [← hI] at S ⊢
  clear hn hi hok hc F1 B1 hI hw1 hMx
  obtain ⟨q, hq⟩ : ∃ q, q = w.heap.size := ⟨_, rfl⟩
  rw [← hq] at S
  have Hq := Lib.hid hq
  clear hq
  go_enter Try.func13, Try.ntmps13
  go_wp2_with fail
  rw [← HW1.out, ← Hq.out]
  refine S.out.mono ?_
  rintro e w2 ⟨rfl, rb2, T2, F2, R2⟩
  have F02 := Lib.hid (show Fr [] w w2 from HF1.out.trans F2 (fun i hi => by right; simp at hi; have := Hq.out; omega))
  obtain ⟨⟨ai, ci, i0, i1, i2, i3, i4⟩, _, i5, i6, i7⟩ := T2.cells
  have HI3 := Lib.hid i3
  have HI1 := Lib.hid i1
  obtain ⟨L, hL⟩ : ∃ L, L = I.out.length := ⟨_, rfl⟩
  rw [← hL] at i0
  have HL := Lib.hid hL
  clear T2 F2 R2 i1 i2 i3 i4 i7 hL
  obtain ⟨f, hf⟩ : ∃ f, f = I.failed := ⟨_, rfl⟩
  obtain ⟨r, hr⟩ : ∃ r, r = I.wrong := ⟨_, rfl⟩
  rw [← hf] at i5
  rw [← hr] at i6
  have Hf := Lib.hid hf
  have Hr := Lib.hid hr
  clear hf hr
  cases f
  · cases r
    · go_wp2_with fail
      go_ret3
      refine ⟨F02.out, .inl ⟨Hf.out.symm, Hr.out.symm, ai, ci, by rw [HL.out]; rfl, HI1.out, HI3.out.bin rfl⟩⟩
    · go_wp2_with fail
      go_quiet (fail)
      go_wp2
      go_ret3
      exact ⟨F02.out.drewN nq, .inr ⟨.inr Hr.out.symm, by rw [← Hr.out]; rfl⟩⟩
  · cases r
    all_goals (
      go_wp2_with fail
      go_quiet (fail)
      go_wp2
      go_ret3
      exact ⟨F02.out.drewN nq, .inr ⟨.inl Hf.out.symm, by rw [← Hr.out]; rfl⟩⟩)
end Go.Proofs.Ytdnepnnkpaoaaaa
