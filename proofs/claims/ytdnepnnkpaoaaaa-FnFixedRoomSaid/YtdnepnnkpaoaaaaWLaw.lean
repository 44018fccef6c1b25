/- The two builds of a law side by side: the reference's and the thin package's, where nothing is taken back that was not written directly. -/
import Derived.Test.YtdnepnnkpaoaaaaWKit
import Derived.Test.YtdnepnnkpaoaaaaME
import Derived.Test.YtdnepnnkpaoaaaaMD
namespace Go.Proofs.Ytdnepnnkpaoaaaa
open Go.RowKit
set_option linter.unusedVariables false

/-- What the reference's Build leaves where all is said: whether it is right; the bytes, if it is. -/
def SaidB (w : World) (s : PB) (e : Ending) (w' : World) : Prop :=
  ∃ a n c, e = .returned (.tuple #[.slice a n c, .bool (!s.failed), .bool true]) ∧ Below w.heap.size w w' ∧ (s.failed = false → n = s.out.length ∧ BIn w' w'.heap.size a s.out)
theorem SBuilt.said {w : World} {s : PB} {e : Ending} {w' : World} (h : SBuilt w s e w') (hw : s.wrong = false) : SaidB w s e w' := by
  obtain ⟨F, h⟩ := h
  rcases h with ⟨q1, q2, a2, c2, rfl, q3, q4⟩ | ⟨q1, rfl⟩
  · exact ⟨a2, _, c2, by rw [q1]; rfl, F.bel, fun _ => ⟨rfl, q4⟩⟩
  · have hf : s.failed = true := by rcases q1 with h | h; exact h; rw [hw] at h; cases h
    exact ⟨none, 0, 0, by rw [hf, hw]; rfl, F.bel, fun h => by rw [hf] at h; cases h⟩
theorem SBuilt.unsaid {w : World} {s : PB} {e : Ending} {w' : World} (h : SBuilt w s e w') (hw : s.wrong = true) : ∃ a n c b, e = .returned (.tuple #[.slice a n c, .bool b, .bool false]) ∧ Below w.heap.size w w' := by
  obtain ⟨F, h⟩ := h
  rcases h with ⟨_, q2, _⟩ | ⟨_, rfl⟩
  · rw [hw] at q2; cases q2
  · exact ⟨none, 0, 0, false, by rw [hw]; rfl, F.bel⟩
/-- What the thin package's Build leaves. -/
def BuiltB (w : World) (s : PB) (e : Ending) (w' : World) : Prop :=
  ∃ a n c, e = .returned (.tuple #[.slice a n c, .bool (!s.failed)]) ∧ Below w.heap.size w w' ∧ n ≤ c ∧ c ≤ maxLen ∧ (s.failed = false → n = s.out.length ∧ BIn w' w'.heap.size a s.out) ∧ (s.failed = true → n = 0)
theorem BuiltP.built {w : World} {s : PB} {e : Ending} {w' : World} (h : BuiltP w s e w') : BuiltB w s e w' := by
  unfold BuiltP at h
  cases hf : s.failed
  · rw [hf] at h
    simp only [Bool.false_eq_true, if_false] at h
    obtain ⟨a, c, rfl, q1, q2, q3, q4⟩ := h
    exact ⟨a, _, c, by rw [hf]; rfl, q4, q1, q2, fun _ => ⟨rfl, q3⟩, fun h => by rw [hf] at h; cases h⟩
  · rw [hf] at h
    simp only [if_true] at h
    obtain ⟨a, c, rfl, q1, q4⟩ := h
    exact ⟨a, 0, c, by rw [hf]; rfl, q4, Nat.zero_le _, q1, (fun h => by rw [hf] at h; cases h), fun _ => rfl⟩

theorem buildSaid (a : Option Addr) (n c : Nat) (its : List It) (w : World) (hn : its.length = n) (hi : ItsIn w w.heap.size a its) (hr : RightP its) (hw : (runP PB.new its).wrong = false) :
    Calls Try.prog 13 #[.slice a n c] w (SaidB w (runP PB.new its)) := (specBuild a n c its w hn hi hr).mono fun _ _ h => h.said hw
theorem buildB (a : Option Addr) (n c : Nat) (its : List It) (w : World) (hn : its.length = n) (hi : ItsIn w w.heap.size a its) (hok : okIs false 12 its = true) (hc : costs its ≤ 1000000) (hw : (runP PB.new its).wrong = false) :
    Calls Try.prog 18 #[.slice a n c] w (BuiltB w (runP PB.new its)) := (iBuild a n c its w hn hi 12 (by omega) hok hw (by unfold Mx; omega)).mono fun _ _ h => h.built

theorem buildUnsaid (a : Option Addr) (n c : Nat) (its : List It) (w : World) (hn : its.length = n) (hi : ItsIn w w.heap.size a its) (hr : RightP its) (hw : (runP PB.new its).wrong = true) :
    Calls Try.prog 13 #[.slice a n c] w fun e w' => ∃ a n c b, e = .returned (.tuple #[.slice a n c, .bool b, .bool false]) ∧ Below w.heap.size w w' := (specBuild a n c its w hn hi hr).mono fun _ _ h => h.unsaid hw

/-! ### A list of one step -/
theorem run_one (x : It) : runP PB.new [x] = stepP PB.new x := by rw [run_cons rfl rfl]; simp [runP]
theorem run_value (its : List It) : runP PB.new [.mk 24 0 0 [] [] its] = runP PB.new its := by rw [run_one]; simp [stepP]
theorem run_badv (its : List It) : runP PB.new [.mk 25 0 0 [] [] its] = (runP PB.new its).fail := by rw [run_one]; simp [stepP]
theorem run_asn1 (t : Int) (its : List It) : runP PB.new [.mk 11 0 t [] [] its] = (PB.new.absorb (runP PB.new its)).element t (runP PB.new its).out := by rw [run_one]; simp [stepP]
theorem costs_one (x : It) : costs [x] = x.cost := by simp [costs]
theorem okIs_one {ins : Bool} {dep : Nat} {x : It} : okIs ins dep [x] = okI ins dep x := by simp [okIs]
theorem badv_ok {its : List It} (h : okIs false 12 [.mk 24 0 0 [] [] its] = true) : okIs false 12 [.mk 25 0 0 [] [] its] = true := by
  rw [okIs_one] at h ⊢
  unfold okI at h ⊢
  simp only [Bool.and_eq_true] at h ⊢
  obtain ⟨⟨⟨⟨⟨⟨⟨⟨h1, h2⟩, h3⟩, h4⟩, h5⟩, h6⟩, h7⟩, h8⟩, h9⟩ := h
  exact ⟨⟨⟨⟨⟨⟨⟨⟨by decide, by decide⟩, h3⟩, h4⟩, by decide⟩, by decide⟩, h7⟩, h8⟩, h9⟩

/-- A literal of one step in memory. -/
theorem one_its {w : World} {g : Nat} {ty : TypeId} {kd nn t : Int} {a : Option Addr} {c : Nat} {ks : List It} (hb : Blk w g ty #[.int .i64 kd, .int .i64 nn, .int .i64 t, .slice none 0 0, .slice none 0 0, .slice a ks.length c]) (hk : ItsIn w w.heap.size a ks) (hc : ks.length ≤ c) (hm : c ≤ maxLen)
    (hn : -9223372036854775808 ≤ nn ∧ nn ≤ 9223372036854775807) : ItsIn w w.heap.size (some ⟨g, 0, none⟩) [.mk kd nn t [] [] ks] := by
  refine .inr ⟨g, 0, rfl, hb.lt, ?_⟩
  unfold ItsAt
  refine ⟨?_, by unfold ItsAt; trivial⟩
  unfold ItAt
  exact ⟨hb.cell 0, hb.cell 1, hb.cell 2, hn, ⟨none, 0, hb.cell 3, Nat.le_refl _, by simp [maxLen], BIn.nil _ _ _, Byt.nil⟩, ⟨none, 0, hb.cell 4, Nat.le_refl _, by simp [maxLen], IIn.nil _ _ _⟩, ⟨a, c, hb.cell 5, hc, hm, hk⟩⟩
theorem bds_one {kd nn t : Int} {ks : List It} (h : bds ks) (hl : ks.length ≤ RB) : bds [.mk kd nn t [] [] ks] := by
  unfold bds
  refine ⟨?_, by unfold bds; trivial⟩
  unfold It.bd
  exact ⟨Nat.zero_le _, Nat.zero_le _, hl, h⟩
/-- The literal of one step, as it lies behind its allocation. -/
theorem lit_its (w W : World) (kd t : Int) (a : Option Addr) (n c : Nat) (its : List It) (hn : its.length = n) (hi : ItsIn w w.heap.size a its) (hc : n ≤ c) (hcm : c ≤ maxLen) (hb : Below w.heap.size w W) :
    Below w.heap.size w (W.alloc (.cells #[.int .i64 kd, .int .i64 0, .int .i64 t, .slice none 0 0, .slice none 0 0, .slice a n c] 45)) ∧
    ItsIn (W.alloc (.cells #[.int .i64 kd, .int .i64 0, .int .i64 t, .slice none 0 0, .slice none 0 0, .slice a n c] 45)) (W.alloc (.cells #[.int .i64 kd, .int .i64 0, .int .i64 t, .slice none 0 0, .slice none 0 0, .slice a n c] 45)).heap.size (some ⟨W.heap.size, 0, none⟩) [.mk kd 0 t [] [] its] := by
  subst hn
  have F : Fr [] W (W.alloc (.cells #[.int .i64 kd, .int .i64 0, .int .i64 t, .slice none 0 0, .slice none 0 0, .slice a its.length c] 45)) := (Fr.refl [] W).alloc _
  have b := bel_then hb F.bel
  exact ⟨b, one_its (Blk.new _ _ _) (hi.now b) hc hcm (by omega)⟩

end Go.Proofs.Ytdnepnnkpaoaaaa
