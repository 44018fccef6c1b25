/- What each step asks of room, and the small joints between the steps' contracts and the builder's. -/
import Derived.Test.YtdnepnnkpaoaaaaItems
namespace Go.Proofs.Ytdnepnnkpaoaaaa
open Go.RowKit
set_option linter.unusedVariables false

theorem bigB_m2 (n : Int) : bigB 2 (n % 65536) = bigB 2 n := by
  simp only [bigB, List.nil_append, List.cons_append, List.cons.injEq, and_true]
  omega
theorem bigB_m3 (n : Int) : bigB 3 (n % 4294967296) = bigB 3 n := by
  simp only [bigB, List.nil_append, List.cons_append, List.cons.injEq, and_true]
  omega
theorem bigB_m4 (n : Int) : bigB 4 (n % 4294967296) = bigB 4 n := by
  simp only [bigB, List.nil_append, List.cons_append, List.cons.injEq, and_true]
  omega
theorem bigB_m8 (n : Int) : bigB 8 (n % 18446744073709551616) = bigB 8 n := by
  simp only [bigB, List.nil_append, List.cons_append, List.cons.injEq, and_true]
  omega

/-- How far the bytes may go. -/
def Mx : Nat := 2000000
def FitI (K : Kd) (m : Nat) (s : PB) (x : It) : Prop :=
  (K.fix = none ∧ 16000000 ≤ K.lim ∧ m + s.out.length + x.cost ≤ Mx) ∨ (K.fix ≠ none ∧ K.lim ≤ 16000000 ∧ x.noTB = true ∧ (stepP s x).failed = false ∧ m + (stepP s x).out.length ≤ K.lim)
def FitS (K : Kd) (m : Nat) (s : PB) (xs : List It) : Prop :=
  (K.fix = none ∧ 16000000 ≤ K.lim ∧ m + s.out.length + costs xs ≤ Mx) ∨ (K.fix ≠ none ∧ K.lim ≤ 16000000 ∧ noTBs xs = true ∧ (runP s xs).failed = false ∧ m + (runP s xs).out.length ≤ K.lim)

theorem run_failed (s : PB) (xs : List It) (h : s.failed = true) : runP s xs = s := by
  cases xs with
  | nil => simp [runP]
  | cons x xs => simp [runP, h]
theorem run_wrong (s : PB) (xs : List It) (h : s.wrong = true) : runP s xs = s := by
  cases xs with
  | nil => simp [runP]
  | cons x xs => simp [runP, h]
theorem run_cons {s : PB} {x : It} {xs : List It} (h1 : s.failed = false) (h2 : s.wrong = false) : runP s (x :: xs) = runP (stepP s x) xs := by simp [runP, h1, h2]
theorem FitS.head {K : Kd} {m : Nat} {s : PB} {x : It} {xs : List It} (h : FitS K m s (x :: xs)) (h1 : s.failed = false) (h2 : s.wrong = false) : FitI K m s x := by
  rcases h with ⟨a, b, c⟩ | ⟨a, b, c, d, e⟩
  · left; refine ⟨a, b, ?_⟩; unfold costs at c; omega
  · right
    unfold noTBs at c
    rw [Bool.and_eq_true] at c
    rw [run_cons h1 h2] at d e
    have hf : (stepP s x).failed = false := by
      cases hh : (stepP s x).failed
      · rfl
      · rw [run_failed _ _ hh, hh] at d; cases d
    have := run_ge (stepP s x) xs c.2
    exact ⟨a, b, c.1, hf, by omega⟩
theorem FitS.tail {K : Kd} {m : Nat} {s : PB} {x : It} {xs : List It} {ins : Bool} {deep : Nat} (h : FitS K m s (x :: xs)) (h1 : s.failed = false) (h2 : s.wrong = false) (hok : okI ins deep x = true) : FitS K m (stepP s x) xs := by
  rcases h with ⟨a, b, c⟩ | ⟨a, b, c, d, e⟩
  · left
    refine ⟨a, b, ?_⟩
    unfold costs at c
    have := step_len ins deep s x hok
    omega
  · right
    unfold noTBs at c
    rw [Bool.and_eq_true] at c
    rw [run_cons h1 h2] at d e
    exact ⟨a, b, c.2, d, e⟩
theorem FitI.out {K : Kd} {m : Nat} {s : PB} {x : It} {ins : Bool} {deep : Nat} (h : FitI K m s x) (hok : okI ins deep x = true) : m + (stepP s x).out.length ≤ K.lim ∧ m + (stepP s x).out.length ≤ 16000000 := by
  rcases h with ⟨a, b, c⟩ | ⟨a, b, c, d, e⟩
  · have := step_len ins deep s x hok
    unfold Mx at c
    omega
  · omega
theorem FitI.free {K : Kd} {m : Nat} {s : PB} {x : It} (h : FitI K m s x) (hf : (stepP s x).failed = true ∨ x.noTB = false) : K.fix = none ∧ 16000000 ≤ K.lim ∧ m + s.out.length + x.cost ≤ Mx := by
  rcases h with h | ⟨a, b, c, d, e⟩
  · exact h
  · rcases hf with hf | hf
    · rw [hf] at d; cases d
    · rw [hf] at c; cases c

/-- What holds ahead of steps on a builder without an error. -/
structure Pre (K : Kd) (base g off pl : Nat) (pb : Bool) (p : List Int) (s : PB) (ic : Value) (rb : Option Nat) (ins : Bool) (B : Nat) (w : World) : Prop where
  bld : Bld K w base g (p ++ s.out) off pl pb ic rb
  flag : Flag w base ic ins
  op : off + pl ≤ p.length
  sz : base ≤ w.heap.size
  dir : s.direct ≤ s.out.length
  nf : s.failed = false
  nw : s.wrong = false
  hB : B ≤ base
  hg : B ≤ g
theorem Pre.keep {K : Kd} {base g off pl : Nat} {pb : Bool} {p : List Int} {s : PB} {ic : Value} {rb : Option Nat} {ins : Bool} {B : Nat} {w w1 : World} (h : Pre K base g off pl pb p s ic rb ins B w) (hf : Fr [] w w1) : Pre K base g off pl pb p s ic rb ins B w1 :=
  ⟨h.bld.keep hf, h.flag.keep0 hf, h.op, Nat.le_trans h.sz hf.size, h.dir, h.nf, h.nw, h.hB, h.hg⟩
/-- What several steps build; none where they fail. -/
def resOf (p : List Int) (s : PB) : Option (List Int) := if s.failed then none else some (p ++ s.out)
theorem resOf_ok {p : List Int} {s : PB} (h : s.failed = false) : resOf p s = some (p ++ s.out) := by simp [resOf, h]
theorem resOf_no {p : List Int} {s : PB} (h : s.failed = true) : resOf p s = none := by simp [resOf, h]
/-- The blocks that a step may turn are none of the items'. -/
theorem Pre.fS_ge {K : Kd} {base g off pl : Nat} {pb : Bool} {p : List Int} {s : PB} {ic : Value} {rb : Option Nat} {ins ins' : Bool} {B : Nat} {w : World} (h : Pre K base g off pl pb p s ic rb ins B w) : ∀ i ∈ fS g rb ic ins', B ≤ i := by
  intro i hi
  unfold fS at hi
  simp only [List.mem_cons, List.mem_append] at hi
  rcases hi with rfl | hi | hi
  · exact h.hg
  · cases rb with
    | none => simp at hi
    | some q => simp at hi; subst hi; exact Nat.le_trans h.hB (h.bld.row _ rfl).1
  · have hi' : i ∈ icB ic := by cases ins' <;> simp at hi; exact hi
    rcases h.flag with ⟨_, h'⟩ | ⟨gq, h', _, hb⟩
    · rw [h'] at hi'; simp [icB] at hi'
    · rw [h'] at hi'; simp [icB] at hi'; subst hi'; exact Nat.le_trans h.hB hb
theorem Pre.bsz {K : Kd} {base g off pl : Nat} {pb : Bool} {p : List Int} {s : PB} {ic : Value} {rb : Option Nat} {ins : Bool} {B : Nat} {w : World} (h : Pre K base g off pl pb p s ic rb ins B w) : B ≤ w.heap.size := Nat.le_trans h.hB h.sz

/-- A continuation that does steps. -/
theorem wWithin (gc pp n c : Nat) (a : Option Addr) (w : World) (R : Ending → World → Prop) (hR : Ends R) (hp : Blk w pp 23 #[.slice a n c])
    (h : Calls Try.prog 32 #[.pointer (some ⟨gc, 0, none⟩), .slice a n c] w R) :
    Calls Try.prog 99 #[.pointer (some ⟨gc, 0, none⟩), .pointer (some ⟨pp, 0, none⟩)] w R := by
  have H := Lib.hid h
  have HR := Lib.hid hR
  have c0 := hp.one
  clear h hR hp
  go_enter Try.func99, Try.ntmps99
  go_wp2_with fail
  refine H.out.mono ?_
  intro e w2 hq
  rcases HR.out e w2 hq with rfl | ⟨t, u, rfl⟩
  · have hq' := Lib.hid hq
    clear hq
    go_wp2_with fail
    go_end0
    exact hq'.out
  · exact ⟨rfl, hq⟩

theorem len_costs (its : List It) : 16 * its.length ≤ costs its := by
  induction its with
  | nil => simp
  | cons x xs ih =>
    obtain ⟨kd, n, t, d, o, ks⟩ := x
    rw [List.length_cons]
    unfold costs It.cost
    omega
theorem cost_mk (kd n t : Int) (d o : List Int) (ks : List It) : (It.mk kd n t d o ks).cost = 16 + d.length + 9 * o.length + costs ks := by rw [It.cost]
theorem okI_mk {ins : Bool} {deep : Nat} {kd n t : Int} {d o : List Int} {ks : List It} (h : okI ins deep (.mk kd n t d o ks) = true) :
    0 ≤ kd ∧ kd ≤ 25 ∧ 0 ≤ t ∧ t ≤ 255 ∧ (kd = 23 → ins = true) ∧ (kd = 4 → 0 ≤ n ∧ n < 281474976710656) ∧ Small o ∧ deep ≠ 0 ∧ okIs (ins || (decide (7 ≤ kd) && decide (kd ≤ 11))) (deep - 1) ks = true := by
  unfold okI at h
  simp only [Bool.and_eq_true, decide_eq_true_eq, Bool.not_eq_true', Bool.and_eq_false_iff, beq_eq_false_iff_ne, ne_eq, Bool.or_eq_false_iff, decide_eq_false_iff_not, Bool.not_eq_false'] at h
  obtain ⟨⟨⟨⟨⟨⟨⟨⟨h1, h2⟩, h3⟩, h4⟩, h5⟩, h6⟩, h7⟩, h8⟩, h9⟩ := h
  refine ⟨h1, h2, h3, h4, ?_, ?_, small_of h7, h8, h9⟩
  · intro hk
    rcases h5 with h | h
    · exact absurd hk h
    · exact h
  · intro hk
    rcases h6 with h | h
    · exact absurd hk h
    · omega

/-- Steps on a builder without an error. -/
def SGood (dep : Nat) : Prop := ∀ (K : Kd) (base g off pl : Nat) (pb : Bool) (p : List Int) (s : PB) (ic : Value) (rb : Option Nat) (ins : Bool) (B : Nat) (w : World) (its : List It) (a : Option Addr) (n c : Nat),
  Pre K base g off pl pb p s ic rb ins B w → ItsIn w B a its → its.length = n → okIs ins dep its = true → (runP s its).wrong = false → FitS K p.length s its → dep ≤ 100 → costs its ≤ Mx →
    Calls Try.prog 32 #[.pointer (some ⟨g, 0, none⟩), .slice a n c] w (Outc K base g off pl pb ic rb ins dep Mx w (resOf p (runP s its)))
/-- What steps leave of a builder that holds an error. -/
def BadS (g : Nat) (ins : Bool) (w : World) (e : Ending) (w' : World) : Prop := (e = .returned (.tuple #[]) ∨ (ins = true ∧ Panics e)) ∧ Bad w' g ∧ Fr [g] w w'
theorem BadS.ends {g : Nat} {ins : Bool} {w : World} : Ends (BadS g ins w) := fun e w' h => h.1.imp id (·.2)
theorem BadP.toS {g : Nat} {ins : Bool} {w w' : World} {e : Ending} (h : BadP g w e w') : BadS g ins w e w' := ⟨.inl h.1, h.2.1, h.2.2⟩
theorem BadS.from_ {g : Nat} {ins : Bool} {w w1 w' : World} {e : Ending} (hf : Fr [] w w1) (h : BadS g ins w1 e w') : BadS g ins w e w' := ⟨h.1, h.2.1, (hf.mono (by simp)).trans h.2.2 (fun i hi => .inl hi)⟩
theorem BadS.outc {K : Kd} {base g off pl : Nat} {pb : Bool} {ic : Value} {rb : Option Nat} {ins : Bool} {dep M : Nat} {w : World} {e : Ending} {w' : World} (h : BadS g ins w e w') : Outc K base g off pl pb ic rb ins dep M w none e w' := by
  obtain ⟨h1, h2, h3⟩ := h
  refine ⟨h3.mono (by intro i hi; simp at hi; subst hi; unfold fS; simp), ?_⟩
  rcases h1 with h | ⟨h, h'⟩
  · exact .inl ⟨h, h2⟩
  · exact .inr ⟨h, h', [], none, .inl ⟨h2, rfl⟩, Nat.zero_le _, by simp, .inl rfl⟩
def SBad (dep : Nat) : Prop := ∀ (g : Nat) (ins : Bool) (B : Nat) (w : World) (its : List It) (a : Option Addr) (n c : Nat),
  Bad w g → ItsIn w B a its → its.length = n → okIs ins dep its = true → B ≤ g → B ≤ w.heap.size → costs its ≤ Mx →
    Calls Try.prog 32 #[.pointer (some ⟨g, 0, none⟩), .slice a n c] w (BadS g ins w)
end Go.Proofs.Ytdnepnnkpaoaaaa
