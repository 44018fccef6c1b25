/- What each step asks of room, and the small joints between the steps' contracts and the builder's. -/
import Derived.Test.YtdnepnnkpaoaaaaItems
namespace Go.Proofs.Ytdnepnnkpaoaaaa
open Go.RowKit
set_option linter.unusedVariables false

theorem bigB_m2 (n : Int) : bigB 2 (n % 65536) = bigB 2 n := by
  simp only [bigB, List.nil_append, List.cons_append, List.cons.injEq, and_true]
  omega
theorem bigB_m3 (n : Int) : bigB 3 (n % 4294967296) = bigB 3 n := by
  simp only [bigB, List.nil_append, List.cons_append, List.cons.injEq, and_true]
  omega
theorem bigB_m4 (n : Int) : bigB 4 (n % 4294967296) = bigB 4 n := by
  simp only [bigB, List.nil_append, List.cons_append, List.cons.injEq, and_true]
  omega
theorem bigB_m8 (n : Int) : bigB 8 (n % 18446744073709551616) = bigB 8 n := by
  simp only [bigB, List.nil_append, List.cons_append, List.cons.injEq, and_true]
  omega

/-- How far the bytes may go. -/
def Mx : Nat := 2000000
def FitI (K : Kd) (m : Nat) (s : PB) (x : It) : Prop :=
  (K.fix = none ∧ 16000000 ≤ K.lim ∧ m + s.out.length + x.cost ≤ Mx) ∨ (K.fix ≠ none ∧ K.lim ≤ 16000000 ∧ x.noTB = true ∧ (stepP s x).failed = false ∧ m + (stepP s x).out.length ≤ K.lim)
def FitS (K : Kd) (m : Nat) (s : PB) (xs : List It) : Prop :=
  (K.fix = none ∧ 16000000 ≤ K.lim ∧ m + s.out.length + costs xs ≤ Mx) ∨ (K.fix ≠ none ∧ K.lim ≤ 16000000 ∧ noTBs xs = true ∧ (runP s xs).failed = false ∧ m + (runP s xs).out.length ≤ K.lim)

theorem run_failed (s : PB) (xs : List It) (h : s.failed = true) : runP s xs = s := by
  cases xs with
  | nil => simp [runP]
  | cons x xs => simp [runP, h]
theorem run_wrong (s : PB) (xs : List It) (h : s.wrong = true) : runP s xs = s := by
  cases xs with
  | nil => simp [runP]
  | cons x xs => simp [runP, h]
theorem run_cons {s : PB} {x : It} {xs : List It} (h1 : s.failed = false) (h2 : s.wrong = false) : runP s (x :: xs) = runP (stepP s x) xs := by simp [runP, h1, h2]
theorem FitS.head {K : Kd} {m : Nat} {s : PB} {x : It} {xs : List It} (h : FitS K m s (x :: xs)) (h1 : s.failed = false) (h2 : s.wrong = false) : FitI K m s x := by
  rcases h with ⟨a, b, c⟩ | ⟨a, b, c, d, e⟩
  · left; refine ⟨a, b, ?_⟩; unfold costs at c; omega
  · right
    unfold noTBs at c
    rw [Bool.and_eq_true] at c
    rw [run_cons h1 h2] at d e
    have hf : (stepP s x).failed = false := by
      cases hh : (stepP s x).failed
      · rfl
      · rw [run_failed _ _ hh, hh] at d; cases d
    have := run_ge (stepP s x) xs c.2
    exact ⟨a, b, c.1, hf, by omega⟩
theorem FitS.tail {K : Kd} {m : Nat} {s : PB} {x : It} {xs : List It} {ins : Bool} {deep : Nat} (h : FitS K m s (x :: xs)) (h1 : s.failed = false) (h2 : s.wrong = false) (hok : okI ins deep x = true) : FitS K m (stepP s x) xs := by
  rcases h with ⟨a, b, c⟩ | ⟨a, b, c, d, e⟩
  · left
    refine ⟨a, b, ?_⟩
    unfold costs at c
    have := step_len ins deep s x hok
    omega
  · right
    unfold noTBs at c
    rw [Bool.and_eq_true] at c
    rw [run_cons h1 h2] at d e
    exact ⟨a, b, c.2, d, e⟩
theorem FitI.out {K : Kd} {m : Nat} {s : PB} {x : It} {ins : Bool} {deep : Nat} (h : FitI K m s x) (hok : okI ins deep x = true) : m + (stepP s x).out.length ≤ K.lim ∧ m + (stepP s x).out.length ≤ 16000000 := by
  rcases h with ⟨a, b, c⟩ | ⟨a, b, c, d, e⟩
  · have := step_len ins deep s x hok
    unfold Mx at c
    omega
  · omega
theorem FitI.free {K : Kd} {m : Nat} {s : PB} {x : It} (h : FitI K m s x) (hf : (stepP s x).failed = true ∨ x.noTB = false) : K.fix = none ∧ 16000000 ≤ K.lim ∧ m + s.out.length + x.cost ≤ Mx := by
  rcases h with h | ⟨a, b, c, d, e⟩
  · exact h
  · rcases hf with hf | hf
    · rw [hf] at d; cases d
    · rw [hf] at c; cases c

/-- What holds ahead of steps on a builder without an error. -/
structure Pre (K : Kd) (base g off pl : Nat) (pb : Bool) (p : List Int) (s : PB) (ic : Value) (rb : Option Nat) (ins : Bool) (B : Nat) (w : World) : Prop where
  bld : Bld K w base g (p ++ s.out) off pl pb ic rb
  flag : Flag w base ic ins
  op : off + pl ≤ p.length
  sz : base ≤ w.heap.size
  dir : s.direct ≤ s.out.length
  nf : s.failed = false
  nw : s.wrong = false
  hB : B ≤ base
  hg : B ≤ g
theorem Pre.keep {K : Kd} {base g off pl : Nat} {pb : Bool} {p : List Int} {s : PB} {ic : Value} {rb : Option Nat} {ins : Bool} {B : Nat} {w w1 : World} (h : Pre K base g off pl pb p s ic rb ins B w) (hf : Fr [] w w1) : Pre K base g off pl pb p s ic rb ins B w1 :=
  ⟨h.bld.keep hf, h.flag.keep0 hf, h.op, Nat.le_trans h.sz hf.size, h.dir, h.nf, h.nw, h.hB, h.hg⟩
/-- What several steps build; none where they fail. -/
def resOf (p : List Int) (s : PB) : Option (List Int) := if s.failed then none else some (p ++ s.out)
theorem resOf_ok {p : List Int} {s : PB} (h : s.failed = false) : resOf p s = some (p ++ s.out) := by simp [resOf, h]
theorem resOf_no {p : List Int} {s : PB} (h : s.failed = true) : resOf p s = none := by simp [resOf, h]
/-- The blocks that a step may turn are none of the items'. -/
theorem Pre.fS_ge {K : Kd} {base g off pl : Nat} {pb : Bool} {p : List Int} {s : PB} {ic : Value} {rb : Option Nat} {ins ins' : Bool} {B : Nat} {w : World} (h : Pre K base g off pl pb p s ic rb ins B w) : ∀ i ∈ fS g rb ic ins', B ≤ i := by
  intro i hi
  unfold fS at hi
  simp only [List.mem_cons, List.mem_append] at hi
  rcases hi with rfl | hi | hi
  · exact h.hg
  · cases rb with
    | none => simp at hi
    | some q => simp at hi; subst hi; exact Nat.le_trans h.hB (h.bld.row _ rfl).1
  · have hi' : i ∈ icB ic := by cases ins' <;> simp at hi; exact hi
    rcases h.flag with ⟨_, h'⟩ | ⟨gq, h', _, hb⟩
    · rw [h'] at hi'; simp [icB] at hi'
    · rw [h'] at hi'; simp [icB] at hi'; subst hi'; exact Nat.le_trans h.hB hb
theorem Pre.bsz {K : Kd} {base g off pl : Nat} {pb : Bool} {p : List Int} {s : PB} {ic : Value} {rb : Option Nat} {ins : Bool} {B : Nat} {w : World} (h : Pre K base g off pl pb p s ic rb ins B w) : B ≤ w.heap.size := Nat.le_trans h.hB h.sz

/-- A continuation that does steps. -/
theorem wWithin (gc pp n c : Nat) (a : Option Addr) (w : World) (R : Ending → World → Prop) (hR : Ends R) (hp : Blk w pp 23 #[.slice a n c])
    (h : Calls Try.prog 32 #[.pointer (some ⟨gc, 0, none⟩), .slice a n c] w R) :
    Calls Try.prog 99 #[.pointer (some ⟨gc, 0, none⟩), .pointer (some ⟨pp, 0, none⟩)] w R := by
  have H := Lib.hid h
  have HR := Lib.hid hR
  have c0 := hp.one
  clear h hR hp
  go_enter Try.func99, Try.ntmps99
  go_wp2_with fail
  refine H.out.mono ?_
  intro e w2 hq
  rcases HR.out e w2 hq with rfl | ⟨t, u, rfl⟩
  · have hq' := Lib.hid hq
    clear hq
    go_wp2_with fail
    go_end0
    exact hq'.out
  · exact ⟨rfl, hq⟩

theorem len_costs (its : List It) : 16 * its.length ≤ costs its := by
  induction its with
  | nil => simp
  | cons x xs ih =>
    obtain ⟨kd, n, t, d, o, ks⟩ := x
    rw [List.length_cons]
    unfold costs It.cost
    omega
theorem cost_mk (kd n t : Int) (d o : List Int) (ks : List It) : (It.mk kd n t d o ks).cost = 16 + d.length + 9 * o.length + costs ks := by rw [It.cost]
theorem okI_mk {ins : Bool} {deep : Nat} {kd n t : Int} {d o : List Int} {ks : List It} (h : okI ins deep (.mk kd n t d o ks) = true) :
    0 ≤ kd ∧ kd ≤ 25 ∧ 0 ≤ t ∧ t ≤ 255 ∧ (kd = 23 → ins = true) ∧ (kd = 4 → 0 ≤ n ∧ n < 281474976710656) ∧ Small o ∧ deep ≠ 0 ∧ okIs (ins || (decide (7 ≤ kd) && decide (kd ≤ 11))) (deep - 1) ks = true := by
  unfold okI at h
  simp only [Bool.and_eq_true, decide_eq_true_eq, Bool.not_eq_true', Bool.and_eq_false_iff, beq_eq_false_iff_ne, ne_eq, Bool.or_eq_false_iff, decide_eq_false_iff_not, Bool.not_eq_false'] at h
  obtain ⟨⟨⟨⟨⟨⟨⟨⟨h1, h2⟩, h3⟩, h4⟩, h5⟩, h6⟩, h7⟩, h8⟩, h9⟩ := h
  refine ⟨h1, h2, h3, h4, ?_, ?_, small_of h7, h8, h9⟩
  · intro hk
    rcases h5 with h | h
    · exact absurd hk h
    · exact h
  · intro hk
    rcases h6 with h | h
    · exact absurd hk h
    · omega

/-- Steps on a builder without an error. -/
def SGood (dep : Nat) : Prop := ∀ (K : Kd) (base g off pl : Nat) (pb : Bool) (p : List Int) (s : PB) (ic : Value) (rb : Option Nat) (ins : Bool) (B : Nat) (w : World) (its : List It) (a : Option Addr) (n c : Nat),
  Pre K base g off pl pb p s ic rb ins B w → ItsIn w B a its → its.length = n → okIs ins dep its = true → (runP s its).wrong = false → FitS K p.length s its → dep ≤ 100 → costs its ≤ Mx →
    Calls Try.prog 32 #[.pointer (some ⟨g, 0, none⟩), .slice a n c] w (Outc K base g off pl pb ic rb ins dep Mx w (resOf p (runP s its)))
/-- What steps leave of a builder that holds an error. -/
def BadS (g : Nat) (ins : Bool) (w : World) (e : Ending) (w' : World) : Prop := (e = .returned (.tuple #[]) ∨ (ins = true ∧ Panics e)) ∧ Bad w' g ∧ Fr [g] w w'
theorem BadS.ends {g : Nat} {ins : Bool} {w : World} : Ends (BadS g ins w) := fun e w' h => h.1.imp id (·.2)
theorem BadP.toS {g : Nat} {ins : Bool} {w w' : World} {e : Ending} (h : BadP g w e w') : BadS g ins w e w' := ⟨.inl h.1, h.2.1, h.2.2⟩
theorem BadS.from_ {g : Nat} {ins : Bool} {w w1 w' : World} {e : Ending} (hf : Fr [] w w1) (h : BadS g ins w1 e w') : BadS g ins w e w' := ⟨h.1, h.2.1, (hf.mono (by simp)).trans h.2.2 (fun i hi => .inl hi)⟩
theorem BadS.outc {K : Kd} {base g off pl : Nat} {pb : Bool} {ic : Value} {rb : Option Nat} {ins : Bool} {dep M : Nat} {w : World} {e : Ending} {w' : World} (h : BadS g ins w e w') : Outc K base g off pl pb ic rb ins dep M w none e w' := by
  obtain ⟨h1, h2, h3⟩ := h
  refine ⟨h3.mono (by intro i hi; simp at hi; subst hi; unfold fS; simp), ?_⟩
  rcases h1 with h | ⟨h, h'⟩
  · exact .inl ⟨h, h2⟩
  · exact .inr ⟨h, h', [], none, .inl ⟨h2, rfl⟩, Nat.zero_le _, by simp, .inl rfl⟩
def SBad (dep : Nat) : Prop := ∀ (g : Nat) (ins : Bool) (B : Nat) (w : World) (its : List It) (a : Option Addr) (n c : Nat),
  Bad w g → ItsIn w B a its → its.length = n → okIs ins dep its = true → B ≤ g → B ≤ w.heap.size → costs its ≤ Mx →
    Calls Try.prog 32 #[.pointer (some ⟨g, 0, none⟩), .slice a n c] w (BadS g ins w)
end Go.Proofs.Ytdnepnnkpaoaaaa

namespace Go.Proofs.Ytdnepnnkpaoaaaa
open Go.RowKit
set_option linter.unusedVariables false

set_option maxRecDepth 100000 in
set_option maxHeartbeats 800000 in
theorem clos_oid_bad (K : Kd) (base gc p : Nat) (xs zs : List Int) (off pl : Int) (pa : Bool) (ic : Value) (rb : Option Nat) (a : Option Addr) (n c : Nat) (w : World)
    (hg : Bld K w base gc xs off pl pa ic rb) (hp : Blk w p 73 #[.slice a n c]) (hn : zs.length = n) (hy : IIn w w.heap.size a zs) (hn32 : n ≤ 4194304000) (hok : oidOk zs = false) :
    Calls Try.prog 52 #[.pointer (some ⟨gc, 0, none⟩), .pointer (some ⟨p, 0, none⟩)] w (BadP gc w) := by
  have V := Lib.hid (valid_any a n c zs w hn hy hn32)
  rw [hok] at V
  obtain ⟨v, k, _⟩ := hg
  have c0 : w.cell? ⟨gc, 0, none⟩ = some .nilIface := k.cell 0
  have Hk := Lib.hid k
  have p0 := hp.one
  clear k hp hn hy hok
  go_enter Try.func52, Try.ntmps52
  go_wp2_with fail
  refine V.out.mono ?_
  rintro e w' ⟨rfl, rfl⟩
  go_wp2_with fail
  refine (new_err _ w).mono ?_
  rintro e w1 ⟨u, rfl, f1⟩
  have k1 := f1.blk Hk.out (by simp)
  have d0 : w1.cell? ⟨gc, 0, none⟩ = some .nilIface := k1.cell 0
  have df0 := k1.frozen 0
  have HK1 := Lib.hid k1
  have HF1 := Lib.hid f1
  clear k1 f1
  go_wp2_with fail
  first | go_end0 | refine bodyPost_ret (results_none rfl _ _ _) rfl ?_
  exact ⟨rfl, ⟨_, _, _, _, _, _, _, _, HK1.out.set_ 0 _⟩, (HF1.out.mono (by simp)).set_ (p := ⟨gc, 0, none⟩) (.inl (by simp)) _⟩

theorem gOidBad (K : Kd) (base g off pl : Nat) (pb : Bool) (xs : List Int) (ic : Value) (rb : Option Nat) (ins : Bool) (dep M : Nat) (w : World)
    (hg : Bld K w base g xs off pl pb ic rb) (hfl : Flag w base ic ins) (hop : off + pl ≤ xs.length) (hb : base ≤ w.heap.size) (a : Option Addr) (n c : Nat) (zs : List Int) (hn : zs.length = n) (hy : IIn w w.heap.size a zs) (hya : ∀ b, a = some b → b.block < w.heap.size ∧ b.block ∉ fS g rb ic false) (hs : n ≤ 2000000) (hok : oidOk zs = false)
    (hl : xs.length + 2 ≤ K.lim) (hfx : K.fix = none ∧ M + 4 * (dep + 1) ≤ 16000000 ∧ 16000000 ≤ K.lim) :
    Calls Try.prog 36 #[.pointer (some ⟨g, 0, none⟩), .slice a n c] w (Outc K base g off pl pb ic rb ins (dep + 1) M w none) := by
  refine wOid g a n c w _ Outc.endsF ?_
  have F1 : Fr [] w (w.alloc (.cells #[.slice a n c] 73)) := (Fr.refl [] w).alloc _
  have S1 : (w.alloc (.cells #[.slice a n c] 73)).heap.size = w.heap.size + 1 := by simp
  refine (addASN1 K base g 52 w.heap.size off pl pb 6 xs none ic rb ins dep M _ (hg.keep F1) (hfl.keep0 F1) hop (Nat.le_trans hb F1.size) (by decide) (by decide) (by decide) hl (fun o h => by cases h) (fun _ => hfx) (fun _ _ => by kernel_rfl) ?_).mono fun e w' h => Outc.from_ F1 h
  intro gc rc icc wa fa _ ba fla hba hgc hrc
  have pa := fa.blk (Blk.new w 73 #[.slice a n c]) (fun h => by have := fS_lt hg hfl _ h; omega)
  have hFw : Fr (fS g rb ic false) w wa := (F1.mono (by simp)).trans fa (fun i hi => .inl hi)
  exact (clos_oid_bad K base gc w.heap.size _ zs _ _ _ _ _ a n c wa ba pa hn (hFw.iin' hy (fun b hb => (hya b hb).2)).lt (by omega) hok).mono fun e w' h => h.toS.outc
end Go.Proofs.Ytdnepnnkpaoaaaa

namespace Go.Proofs.Ytdnepnnkpaoaaaa
open Go.RowKit
set_option linter.unusedVariables false

theorem item_bad (dep : Nat) (hS : SBad dep) (g : Nat) (ins : Bool) (B : Nat) (w : World) (x : It) (v : Value) (hb : Bad w g) (hv : ItV w B x v) (hok : okI ins (dep + 1) x = true) (hBg : B ≤ g) (hBw : B ≤ w.heap.size) (hc : x.cost ≤ Mx) :
    Calls Try.prog (itemFn x.kd) #[.pointer (some ⟨g, 0, none⟩), v] w (BadS g ins w) := by
  obtain ⟨kd, n, t, d, o, ks⟩ := x
  obtain ⟨hn, a3, c3, a4, c4, a5, c5, rfl, ⟨l3, m3, b3, y3⟩, ⟨l4, m4, b4⟩, ⟨l5, m5, b5⟩⟩ := hv
  obtain ⟨k0', k1', t0, t1, h23, h4, hsm, hdp, hks⟩ := okI_mk hok
  rw [cost_mk] at hc
  unfold Mx at hc
  have hE : Ends (BadS g ins w) := BadS.ends
  have hf := fun (w1 : World) (h : Fr [] w w1) => hb.keep h
  have hc' : costs ks ≤ Mx := by unfold Mx; omega
  have hP : ∀ (w1 : World) (f : FuncId) (args : Array Value), Fr [] w w1 → Calls Try.prog f args w1 (BadP g w1) → Calls Try.prog f args w1 (BadS g ins w) := fun w1 f args h1 h2 => h2.mono fun e w' h => (h.from_ h1).toS
  show Calls Try.prog (itemFn kd) _ w _
  have hkd : kd = 0 ∨ kd = 1 ∨ kd = 2 ∨ kd = 3 ∨ kd = 4 ∨ kd = 5 ∨ kd = 6 ∨ kd = 7 ∨ kd = 8 ∨ kd = 9 ∨ kd = 10 ∨ kd = 11 ∨ kd = 12 ∨ kd = 13 ∨ kd = 14 ∨ kd = 15 ∨ kd = 16 ∨ kd = 17 ∨ kd = 18 ∨ kd = 19 ∨ kd = 20 ∨ kd = 21 ∨ kd = 22 ∨ kd = 23 ∨ kd = 24 ∨ kd = 25 := by omega
  rcases hkd with rfl | rfl | rfl | rfl | rfl | rfl | rfl | rfl | rfl | rfl | rfl | rfl | rfl | rfl | rfl | rfl | rfl | rfl | rfl | rfl | rfl | rfl | rfl | rfl | rfl | rfl
  · exact k0 g n t _ _ _ w _ hE fun w1 h1 => hP w1 _ _ h1 (xU8 g _ w1 (hf w1 h1))
  · exact k1 g n t _ _ _ w _ hE fun w1 h1 => hP w1 _ _ h1 (xU16 g _ w1 (hf w1 h1))
  · exact k2 g n t _ _ _ w _ hE fun w1 h1 => hP w1 _ _ h1 (xU24 g _ w1 (hf w1 h1))
  · exact k3 g n t _ _ _ w _ hE fun w1 h1 => hP w1 _ _ h1 (xU32 g _ w1 (hf w1 h1))
  · exact k4 g n t _ _ _ w _ hE fun w1 h1 => hP w1 _ _ h1 (xU48 g _ w1 (hf w1 h1))
  · exact k5 g n t _ _ _ w _ hE fun w1 h1 => hP w1 _ _ h1 (xU64 g _ w1 (hf w1 h1))
  · exact k6 g w n t _ _ a3 _ c3 d rfl b3.lt (by omega) w rfl _ hE fun a' c' w1 h1 _ _ => hP w1 _ _ h1 (xBytes g _ w1 (hf w1 h1))
  · exact k7 g n t _ _ _ _ _ w _ hE fun p w1 h1 _ _ => wP8 g _ w1 _ hE (hP w1 _ _ h1 (xLP g _ _ _ w1 (hf w1 h1)))
  · exact k8 g n t _ _ _ _ _ w _ hE fun p w1 h1 _ _ => wP16 g _ w1 _ hE (hP w1 _ _ h1 (xLP g _ _ _ w1 (hf w1 h1)))
  · exact k9 g n t _ _ _ _ _ w _ hE fun p w1 h1 _ _ => wP24 g _ w1 _ hE (hP w1 _ _ h1 (xLP g _ _ _ w1 (hf w1 h1)))
  · exact k10 g n t _ _ _ _ _ w _ hE fun p w1 h1 _ _ => wP32 g _ w1 _ hE (hP w1 _ _ h1 (xLP g _ _ _ w1 (hf w1 h1)))
  · exact k11 g n t _ _ _ _ _ w _ hE fun p w1 h1 _ _ => hP w1 _ _ h1 (xASN1 g _ _ w1 (hf w1 h1))
  · exact k12 g n t _ _ _ w _ hE fun w1 h1 => wBool g _ w1 _ hE (hP _ _ _ (h1.alloc _) (xASN1 g _ _ _ (hf _ (h1.alloc _))))
  · exact k13 g n t _ _ _ w _ hE fun w1 h1 => wInt64 g n w1 _ hE (wSigned g 2 n w1 _ hE (hP _ _ _ (h1.alloc _) (xASN1 g _ _ _ (hf _ (h1.alloc _)))))
  · exact k14 g n t _ _ _ w _ hE fun w1 h1 => wInt64T g n (t % 256) w1 _ hE (wSigned g (t % 256) n w1 _ hE (hP _ _ _ (h1.alloc _) (xASN1 g _ _ _ (hf _ (h1.alloc _)))))
  · exact k15 g n t _ _ _ w _ hE fun w1 h1 => wUint g _ w1 _ hE (hP _ _ _ (h1.alloc _) (xASN1 g _ _ _ (hf _ (h1.alloc _))))
  · exact k16 g n t _ _ _ w _ hE fun w1 h1 => wEnum g n w1 _ hE (wSigned g 10 n w1 _ hE (hP _ _ _ (h1.alloc _) (xASN1 g _ _ _ (hf _ (h1.alloc _)))))
  · exact k17 g n t _ _ _ w _ hE fun w1 h1 => hP w1 _ _ h1 (xNull g w1 (hf w1 h1))
  · exact k18 g w n t _ _ a3 _ c3 d rfl b3.lt (by omega) w rfl _ hE fun a' c' w1 h1 _ _ => wOct g _ _ _ w1 _ hE (hP _ _ _ (h1.alloc _) (xASN1 g _ _ _ (hf _ (h1.alloc _))))
  · exact k19 g w n t _ _ a3 _ c3 d rfl b3.lt (by omega) w rfl _ hE fun a' c' w1 h1 _ _ => wBits g _ _ _ w1 _ hE (hP _ _ _ (h1.alloc _) (xASN1 g _ _ _ (hf _ (h1.alloc _))))
  · exact k20 g w n t _ _ a4 _ c4 o rfl b4.lt (by omega) w rfl _ hE fun a' c' w1 h1 _ _ _ => wOid g _ _ _ w1 _ hE (hP _ _ _ (h1.alloc _) (xASN1 g _ _ _ (hf _ (h1.alloc _))))
  · exact k21 g n t _ _ _ w _ hE fun ty u w1 h1 => hP w1 _ _ h1 (by obtain ⟨t, u', v1, v2, v4, v5, v6, v7, k⟩ := hf w1 h1; exact setErr g ty u _ _ _ _ _ _ _ w1 k)
  · exact k22 g n t _ _ _ w _ hE fun w1 h1 => hP w1 _ _ h1 (xUnwrite g _ w1 (hf w1 h1))
  · exact k23 g n t _ _ _ w _ fun ty u w1 h1 => ⟨.inr ⟨h23 rfl, ty, u, rfl⟩, hf w1 h1, h1.mono (by simp)⟩
  · refine k24 g n t _ _ a5 _ c5 w _ hE fun w1 h1 => ?_
    have hks' : okIs ins dep ks = true := by simpa using hks
    have F2 : Fr [] w (w1.alloc (.cells #[.slice a5 ks.length c5, .bool false] 121)) := h1.alloc _
    refine (addValue_any g a5 ks.length c5 false [g] w1 (BadS g ins (w1.alloc (.cells #[.slice a5 ks.length c5, .bool false] 121))) BadS.ends (by intro i hi; simp at hi; subst hi; exact (hf w1 h1).lt) ?_ ?_).mono ?_
    · rintro w2 ⟨_, ⟨t, u', v1, v2, v4, v5, v6, v7, k⟩, _⟩
      exact ⟨_, _, _, _, _, _, _, _, k⟩
    · exact (hS g ins B _ ks a5 ks.length c5 (hf _ F2) (F2.its hBw (by simp) b5) rfl hks' hBg (Nat.le_trans hBw F2.size) hc').mono fun e w2 h => ⟨h, h.2.2⟩
    · rintro e w2 (⟨hp, hq⟩ | ⟨rfl, ⟨_, hq⟩ | ⟨_, ty, u, w3, w4, hq, hf4, rfl⟩⟩)
      · exact hq.from_ F2
      · exact hq.from_ F2
      · obtain ⟨_, ⟨t, u', v1, v2, v4, v5, v6, v7, k⟩, f3⟩ := hq.from_ F2
        exact ⟨.inl rfl, ⟨ty, u, v1, v2, v4, v5, v6, v7, (hf4.blk k (by simp)).set_ 0 _⟩, (f3.trans hf4 (by simp)).set_ (p := ⟨g, 0, none⟩) (.inl (by simp)) _⟩
  · refine k25 g n t _ _ a5 _ c5 w _ hE fun w1 h1 => ?_
    have hks' : okIs ins dep ks = true := by simpa using hks
    have F2 : Fr [] w (w1.alloc (.cells #[.slice a5 ks.length c5, .bool true] 121)) := h1.alloc _
    refine (addValue_any g a5 ks.length c5 true [g] w1 (BadS g ins (w1.alloc (.cells #[.slice a5 ks.length c5, .bool true] 121))) BadS.ends (by intro i hi; simp at hi; subst hi; exact (hf w1 h1).lt) ?_ ?_).mono ?_
    · rintro w2 ⟨_, ⟨t, u', v1, v2, v4, v5, v6, v7, k⟩, _⟩
      exact ⟨_, _, _, _, _, _, _, _, k⟩
    · exact (hS g ins B _ ks a5 ks.length c5 (hf _ F2) (F2.its hBw (by simp) b5) rfl hks' hBg (Nat.le_trans hBw F2.size) hc').mono fun e w2 h => ⟨h, h.2.2⟩
    · rintro e w2 (⟨hp, hq⟩ | ⟨rfl, ⟨_, hq⟩ | ⟨_, ty, u, w3, w4, hq, hf4, rfl⟩⟩)
      · exact hq.from_ F2
      · exact hq.from_ F2
      · obtain ⟨_, ⟨t, u', v1, v2, v4, v5, v6, v7, k⟩, f3⟩ := hq.from_ F2
        exact ⟨.inl rfl, ⟨ty, u, v1, v2, v4, v5, v6, v7, (hf4.blk k (by simp)).set_ 0 _⟩, (f3.trans hf4 (by simp)).set_ (p := ⟨g, 0, none⟩) (.inl (by simp)) _⟩
end Go.Proofs.Ytdnepnnkpaoaaaa
