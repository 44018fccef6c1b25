/- Joints for the laws of whole trees of steps. -/
import Derived.Test.YtdnepnnkpaoaaaaBuild
namespace Go.Proofs.Ytdnepnnkpaoaaaa
open Go.RowKit
set_option linter.unusedVariables false

mutual
theorem ItAt.more {w : World} {B B' : Nat} (hB : B ≤ B') (b o : Nat) : ∀ x : It, ItAt w B b o x → ItAt w B' b o x
  | .mk kd n t d oi ks, h => by
    unfold ItAt at h ⊢
    obtain ⟨h0, h1, h2, hn, ⟨a3, c3, h3, l3, m3, b3, y3⟩, ⟨a4, c4, h4, l4, m4, b4⟩, ⟨a5, c5, h5, l5, m5, k5⟩⟩ := h
    refine ⟨h0, h1, h2, hn, ⟨a3, c3, h3, l3, m3, b3.more hB, y3⟩, ⟨a4, c4, h4, l4, m4, b4.more hB⟩, ⟨a5, c5, h5, l5, m5, ?_⟩⟩
    rcases k5 with h | ⟨b', o', h, hb', hi⟩
    · exact .inl h
    · exact .inr ⟨b', o', h, Nat.lt_of_lt_of_le hb' hB, ItsAt.more hB b' o' ks hi⟩
theorem ItsAt.more {w : World} {B B' : Nat} (hB : B ≤ B') (b o : Nat) : ∀ xs : List It, ItsAt w B b o xs → ItsAt w B' b o xs
  | [], h => by unfold ItsAt; trivial
  | x :: xs, h => by
    unfold ItsAt at h ⊢
    exact ⟨ItAt.more hB b o x h.1, ItsAt.more hB b (o + 6) xs h.2⟩
end
theorem ItsIn.more {w : World} {B B' : Nat} {a : Option Addr} {its : List It} (h : ItsIn w B a its) (hB : B ≤ B') : ItsIn w B' a its := by
  rcases h with h | ⟨b, o, h, hb, hi⟩
  · exact .inl h
  · exact .inr ⟨b, o, h, Nat.lt_of_lt_of_le hb hB, ItsAt.more hB b o its hi⟩
theorem ItsIn.below {w w' : World} {B : Nat} {a : Option Addr} {its : List It} (h : ItsIn w B a its) (hb : Below B w w') : ItsIn w' B a its := h.keep fun _ hp => hb.cell hp
/-- Steps that lay in memory lie there still, behind all that the call has done to its own. -/
theorem ItsIn.now {w w' : World} {a : Option Addr} {its : List It} (h : ItsIn w w.heap.size a its) (hb : Below w.heap.size w w') : ItsIn w' w'.heap.size a its := (h.below hb).more hb.size
theorem Fr.bel {w w' : World} (h : Fr [] w w') : Below w.heap.size w w' := h.below (by simp) (Nat.le_refl _)
/-- Bytes that lay in memory lie there still. -/
theorem BIn.now {w w' : World} {a : Option Addr} {xs : List Int} (h : BIn w w.heap.size a xs) (hb : Below w.heap.size w w') : BIn w' w'.heap.size a xs := (h.below hb).lt
theorem bel_alloc (w : World) (o : Obj) : Below w.heap.size w (w.alloc o) := ((Fr.refl [] w).alloc o).bel
theorem bel_then {w w1 w2 : World} (h : Below w.heap.size w w1) (k : Below w1.heap.size w1 w2) : Below w.heap.size w w2 := h.trans (k.mono h.size)

set_option maxHeartbeats 400000 in
/-- The same bytes, twice. -/
theorem same_self (a b : Option Addr) (n c d : Nat) (xs : List Int) (w : World) (B : Nat) (hn : xs.length = n) (h : BIn w B a xs) (k : BIn w B b xs) :
    Calls Try.prog 15 #[.slice a n c, .slice b n d] w fun e w' => e = .returned (.bool true) ∧ w = w' := by
  have q1 := conv_bytes 22 Try.underlying22 a n c xs w B hn h
  have q2 := conv_bytes 22 Try.underlying22 b n d xs w B hn k
  clear hn h k
  go_enter Try.func15, Try.ntmps15
  go_wp2
  go_ret
  exact ⟨by simp, rfl⟩

mutual
theorem step_nw (s : PB) : ∀ x : It, x.noTB = true → s.wrong = false → (stepP s x).wrong = false
  | .mk kd n t d o ks, h, hs => by
    unfold It.noTB at h
    simp only [Bool.and_eq_true, Bool.not_eq_true', beq_eq_false_iff_ne, ne_eq] at h
    have r1 := run_nw PB.new ks h.2 rfl
    have r2 := run_nw s ks h.2 hs
    have hel : ∀ (s : PB) (t : Int) (c : List Int), s.wrong = false → (s.element t c).wrong = false := by
      intro s t c hs
      unfold PB.element
      split <;> exact hs
    have ha : (s.absorb (runP PB.new ks)).wrong = false := by simp only [PB.absorb, hs, r1, Bool.or_self]
    unfold stepP
    repeat' split
    · exact hs
    · exact hs
    · unfold PB.prefixed
      split <;> exact ha
    · exact hel _ _ _ ha
    · unfold PB.prim
      split
      · exact hel _ _ _ hs
      · exact hs
    · rename_i h22; exact absurd h22 h.1
    · exact r2
    · exact r2
    · exact hs
theorem run_nw (s : PB) : ∀ xs : List It, noTBs xs = true → s.wrong = false → (runP s xs).wrong = false
  | [], _, hs => by simpa [runP] using hs
  | x :: xs, h, hs => by
    unfold noTBs at h
    rw [Bool.and_eq_true] at h
    have h1 := step_nw s x h.1 hs
    have h2 := run_nw (stepP s x) xs h.2 h1
    unfold runP
    split
    · exact hs
    · exact h2
end
end Go.Proofs.Ytdnepnnkpaoaaaa
