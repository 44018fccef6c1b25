/- How an argument that is a list of steps is opened. -/
import Derived.Test.YtdnepnnkpaoaaaaMF
import Derived.Test.YtdnepnnkpaoaaaaSpecRight
import Derived.SizedLaws
import Derived.Deep.Slices
namespace Go.Proofs.Ytdnepnnkpaoaaaa
open Go.ChangeShapes Go.WideShapes Go.ChangeAt Go.RowKit
set_option linter.unusedVariables false

section
variable {H : Type} {enc : TypeId × Value → H} {W : World}
theorem bytes_trod {fuel : Nat} {v : Value} {x : DataW H × List MemPlace} (h : DataW.trod enc Try.prog W 0 (fun _ => true) true fuel 22 [v] = some x) (hw : ∀ z ∈ x.1.weights Try.prog 22, z ≤ reachBytes) :
    ∃ a xs c, v = .slice a (List.length xs) c ∧ BIn W W.heap.size a xs ∧ Byt xs ∧ xs.length ≤ c ∧ c ≤ maxLen ∧ xs.length ≤ RB := by
  rcases open_ints Try.underlying22 Try.underlying5 (by kernel_rfl) h with ⟨hcs, _⟩ | ⟨a, l, c, zs, hcs, _, hl, hm, hz, hx, _, _⟩
  · simp at hcs
    subst hcs
    exact ⟨none, [], 0, rfl, BIn.nil _ _ _, Byt.nil, Nat.le_refl _, by simp [maxLen], Nat.zero_le _⟩
  · simp at hcs
    subst hcs
    obtain ⟨xs, h1, h2, h3, h4, h5⟩ := bytes_arg (p := x.2) (d0 := x.1) (show DataW.Trod enc Try.prog W 0 (fun _ => true) true 22 (.slice (some a) l c) x.1 x.2 from ⟨fuel, h⟩)
    subst h1
    refine ⟨some a, xs, c, rfl, h2, h3, h4, h5, ?_⟩
    have hb : Try.prog.bytesOf 5 = 1 := by kernel_rfl
    have := hw ((lits .u8 (zs.take xs.length) (H := H)).length + (lits .u8 (zs.drop xs.length) (H := H)).length) (by rw [hx]; simp [DataW.weights, Try.underlying22, hb])
    simp [lits, reachBytes] at this
    have hz' : zs.length = c := by simpa using hz
    unfold RB
    omega
theorem ints_trod {fuel : Nat} {v : Value} {x : DataW H × List MemPlace} (h : DataW.trod enc Try.prog W 0 (fun _ => true) true fuel 37 [v] = some x) (hw : ∀ z ∈ x.1.weights Try.prog 37, z ≤ reachBytes) :
    ∃ a xs c, v = .slice a (List.length xs) c ∧ IIn W W.heap.size a xs ∧ xs.length ≤ c ∧ c ≤ maxLen ∧ xs.length ≤ RB := by
  rcases open_ints Try.underlying37 Try.underlying3 (by kernel_rfl) h with ⟨hcs, _⟩ | ⟨a, l, c, zs, hcs, _, hl, hm, hz, hx, _, _⟩
  · simp at hcs
    subst hcs
    exact ⟨none, [], 0, rfl, IIn.nil _ _ _, Nat.le_refl _, by simp [maxLen], Nat.zero_le _⟩
  · simp at hcs
    subst hcs
    obtain ⟨xs, h1, h2, h4, h5⟩ := ints_arg (p := x.2) (d0 := x.1) (show DataW.Trod enc Try.prog W 0 (fun _ => true) true 37 (.slice (some a) l c) x.1 x.2 from ⟨fuel, h⟩)
    subst h1
    refine ⟨some a, xs, c, rfl, h2, h4, h5, ?_⟩
    have hb : Try.prog.bytesOf 3 = 8 := by kernel_rfl
    have := hw (((lits .i64 (zs.take xs.length) (H := H)).length + (lits .i64 (zs.drop xs.length) (H := H)).length) * 8) (by rw [hx]; simp [DataW.weights, Try.underlying37, hb])
    simp [lits, reachBytes] at this
    have hz' : zs.length = c := by simpa using hz
    unfold RB
    omega
theorem its_collect (w : World) (B b : Nat) : ∀ (len o : Nat), (∀ i, i < len → ∃ x, ItAt w B b (o + i * 6) x ∧ x.bd) → ∃ its, List.length its = len ∧ ItsAt w B b o its ∧ bds its := by
  intro len
  induction len with
  | zero => intro o _; exact ⟨[], rfl, by unfold ItsAt; trivial, by unfold bds; trivial⟩
  | succ len ih =>
    intro o h
    obtain ⟨x, h1, h2⟩ := h 0 (by omega)
    obtain ⟨its, h3, h4, h5⟩ := ih (o + 6) (fun i hi => by
      have := h (i + 1) (by omega)
      rwa [show o + (i + 1) * 6 = o + 6 + i * 6 by omega] at this)
    refine ⟨x :: its, by simp [h3], ?_, ?_⟩
    · unfold ItsAt
      exact ⟨by simpa using h1, h4⟩
    · unfold bds
      exact ⟨h2, h5⟩
theorem weightsAll_mem {P : Program} {e : TypeId} {l : List (DataW H)} {d : DataW H} (hd : d ∈ l) : ∀ z ∈ d.weights P e, z ∈ DataW.weightsAll P e l := by
  induction l with
  | nil => simp at hd
  | cons y ys ih =>
    intro z hz
    simp only [DataW.weightsAll, List.mem_append]
    rcases List.mem_cons.1 hd with rfl | h
    · exact .inl hz
    · exact .inr (ih h z hz)

set_option maxRecDepth 100000 in
set_option maxHeartbeats 1600000 in
theorem items_trod : ∀ (fuel : Nat) (v : Value) (x : DataW H × List MemPlace), DataW.trod enc Try.prog W 0 (fun _ => true) true fuel 23 [v] = some x → (∀ z ∈ x.1.weights Try.prog 23, z ≤ reachBytes) →
    ∃ a its c, v = .slice a (List.length its) c ∧ ItsIn W W.heap.size a its ∧ bds its ∧ its.length ≤ c ∧ c ≤ maxLen ∧ its.length ≤ RB := by
  intro fuel
  induction fuel using Nat.strongRecOn with
  | ind fuel ih =>
    intro v x h hw
    rcases DataW.trod_slice Try.underlying23 h with ⟨hcs, _⟩ | ⟨a, len, cap, elems, rest, n, hfu, hcs, hx, _, hl, hm, hlen, hel, _, _⟩
    · simp at hcs
      subst hcs
      exact ⟨none, [], 0, rfl, .inl rfl, by unfold bds; trivial, Nat.le_refl _, by simp [maxLen], Nat.zero_le _⟩
    · simp at hcs
      subst hcs
      have hC : Try.prog.cellsOf 45 = 6 := by kernel_rfl
      have hBy : Try.prog.bytesOf 45 = 96 := by kernel_rfl
      have hW : ∀ y ∈ elems, ∀ z ∈ y.1.weights Try.prog 45, z ≤ reachBytes := by
        intro y hy z hz
        refine hw z ?_
        rw [hx]
        simp only [DataW.weights, Try.underlying23, List.mem_cons, List.mem_append]
        exact .inr (.inl (weightsAll_mem (List.mem_map_of_mem (f := (·.1)) hy) z hz))
      have hR : len ≤ RB := by
        have := hw ((elems.length + rest.length) * 96) (by rw [hx]; simp [DataW.weights, Try.underlying23, hBy])
        rw [reachBytes] at this
        unfold RB
        omega
      obtain ⟨b, o, spot⟩ := a
      have hspot : 0 < len → spot = none := by
        intro hi
        have h1 := hel 0 hi
        rw [List.getElem?_eq_getElem (by omega), hC] at h1
        obtain ⟨cs, hc, _⟩ := Option.bind_eq_some_iff.1 h1
        obtain ⟨_, hsz, hat⟩ := World.cells?_some hc
        have g0 := hat 0 (by omega)
        rw [List.getElem?_eq_getElem (by omega)] at g0
        have := World.cell?_spot g0
        simpa [Addr.add] using this
      have hitem : ∀ i, i < len → spot = none ∧ b < W.heap.size ∧ ∃ x, ItAt W W.heap.size b (o + i * 6) x ∧ x.bd := by
        intro i hi
        have h1 := hel i hi
        rw [List.getElem?_eq_getElem (by omega), hC] at h1
        obtain ⟨cs, hc, ht⟩ := Option.bind_eq_some_iff.1 h1
        obtain ⟨ys, n', hn', hy, hcl, hyl, hf⟩ := DataW.trod_struct Try.underlying45 ht
        obtain ⟨_, hsz, hat⟩ := World.cells?_some hc
        have hws : ∀ z ∈ DataW.weightsEach Try.prog [3, 3, 3, 22, 37, 23] (ys.map (·.1)), z ≤ reachBytes := by
          intro z hz
          refine hW elems[i] (List.getElem_mem _) z ?_
          rw [hy]
          simp only [DataW.weights, Try.underlying45]
          exact hz
        rw [hC] at hcl
        have hyl' : ys.length = 6 := hyl
        obtain ⟨v0, v1, v2, v3, v4, v5, rfl⟩ : ∃ v0 v1 v2 v3 v4 v5, cs = [v0, v1, v2, v3, v4, v5] := by
          match cs, hcl with
          | [v0, v1, v2, v3, v4, v5], _ => exact ⟨v0, v1, v2, v3, v4, v5, rfl⟩
        obtain ⟨y0, y1, y2, y3, y4, y5, rfl⟩ : ∃ y0 y1 y2 y3 y4 y5, ys = [y0, y1, y2, y3, y4, y5] := by
          match ys, hyl' with
          | [y0, y1, y2, y3, y4, y5], _ => exact ⟨y0, y1, y2, y3, y4, y5, rfl⟩
        have c1 : Try.prog.cellsOf 3 = 1 := by kernel_rfl
        have c2 : Try.prog.cellsOf 22 = 1 := by kernel_rfl
        have c3 : Try.prog.cellsOf 37 = 1 := by kernel_rfl
        have c4 : Try.prog.cellsOf 23 = 1 := by kernel_rfl
        have f0 : DataW.trod enc Try.prog W 0 (fun _ => true) true n' 3 [v0] = some y0 := by
          have := hf 0 _ rfl
          change DataW.trod enc Try.prog W 0 (fun _ => true) true n' 3 (([v0, v1, v2, v3, v4, v5].drop 0).take (Try.prog.cellsOf 3)) = some y0 at this
          rw [c1] at this
          exact this
        have f1 : DataW.trod enc Try.prog W 0 (fun _ => true) true n' 3 [v1] = some y1 := by
          have := hf 1 _ rfl
          change DataW.trod enc Try.prog W 0 (fun _ => true) true n' 3 (([v0, v1, v2, v3, v4, v5].drop 1).take (Try.prog.cellsOf 3)) = some y1 at this
          rw [c1] at this
          exact this
        have f2 : DataW.trod enc Try.prog W 0 (fun _ => true) true n' 3 [v2] = some y2 := by
          have := hf 2 _ rfl
          change DataW.trod enc Try.prog W 0 (fun _ => true) true n' 3 (([v0, v1, v2, v3, v4, v5].drop 2).take (Try.prog.cellsOf 3)) = some y2 at this
          rw [c1] at this
          exact this
        have f3 : DataW.trod enc Try.prog W 0 (fun _ => true) true n' 22 [v3] = some y3 := by
          have := hf 3 _ rfl
          change DataW.trod enc Try.prog W 0 (fun _ => true) true n' 22 (([v0, v1, v2, v3, v4, v5].drop 3).take (Try.prog.cellsOf 22)) = some y3 at this
          rw [c2] at this
          exact this
        have f4 : DataW.trod enc Try.prog W 0 (fun _ => true) true n' 37 [v4] = some y4 := by
          have := hf 4 _ rfl
          change DataW.trod enc Try.prog W 0 (fun _ => true) true n' 37 (([v0, v1, v2, v3, v4, v5].drop 4).take (Try.prog.cellsOf 37)) = some y4 at this
          rw [c3] at this
          exact this
        have f5 : DataW.trod enc Try.prog W 0 (fun _ => true) true n' 23 [v5] = some y5 := by
          have := hf 5 _ rfl
          change DataW.trod enc Try.prog W 0 (fun _ => true) true n' 23 (([v0, v1, v2, v3, v4, v5].drop 5).take (Try.prog.cellsOf 23)) = some y5 at this
          rw [c4] at this
          exact this
        have w3 := fun z hz => hws z (DataW.weights_mem_each (j := 3) (t := 22) (d := y3.1) rfl rfl z hz)
        have w4 := fun z hz => hws z (DataW.weights_mem_each (j := 4) (t := 37) (d := y4.1) rfl rfl z hz)
        have w5 := fun z hz => hws z (DataW.weights_mem_each (j := 5) (t := 23) (d := y5.1) rfl rfl z hz)
        obtain ⟨kd, e0, _, _⟩ := DataW.trod_int Try.underlying3 f0
        obtain ⟨nn, e1, _, hwf⟩ := DataW.trod_int Try.underlying3 f1
        obtain ⟨t, e2, _, _⟩ := DataW.trod_int Try.underlying3 f2
        obtain ⟨a3, d, cc3, rfl, p3, q3, l3, m3, r3⟩ := bytes_trod f3 w3
        obtain ⟨a4, oi, cc4, rfl, p4, l4, m4, r4⟩ := ints_trod f4 w4
        obtain ⟨a5, ks, cc5, rfl, p5, q5, l5, m5, r5⟩ := ih n' (by omega) v5 y5 f5 w5
        injection e0 with e0 _
        injection e1 with e1 _
        injection e2 with e2 _
        subst e0 e1 e2
        have g0 := hat 0 (by omega)
        have g1 := hat 1 (by omega)
        have g2 := hat 2 (by omega)
        have g3 := hat 3 (by omega)
        have g4 := hat 4 (by omega)
        have g5 := hat 5 (by omega)
        have hsp := hspot (by omega)
        subst hsp
        simp only [List.getElem?_cons_zero, List.getElem?_cons_succ, add_plain'] at g0 g1 g2 g3 g4 g5
        refine ⟨rfl, World.block_lt_of_cell? _ _ g0, .mk kd nn t d oi ks, ?_, ?_⟩
        · unfold ItAt
          have hnn : -9223372036854775808 ≤ nn ∧ nn ≤ 9223372036854775807 := by
            have h1 : IntKind.i64.min = -9223372036854775808 := rfl
            have h2 : IntKind.i64.max = 9223372036854775807 := rfl
            simp only [Lit.wf, Bool.and_eq_true, decide_eq_true_eq] at hwf
            omega
          refine ⟨by simpa using g0, by simpa [Nat.add_assoc] using g1, by simpa [Nat.add_assoc] using g2, hnn, ⟨a3, cc3, by simpa [Nat.add_assoc] using g3, l3, m3, p3, q3⟩, ⟨a4, cc4, by simpa [Nat.add_assoc] using g4, l4, m4, p4⟩, ⟨a5, cc5, by simpa [Nat.add_assoc] using g5, l5, m5, p5⟩⟩
        · unfold It.bd
          exact ⟨r3, r4, r5, q5⟩
      by_cases h0 : len = 0
      · refine ⟨some ⟨b, o, spot⟩, [], cap, by rw [h0]; rfl, .inl rfl, by unfold bds; trivial, Nat.zero_le _, hm, Nat.zero_le _⟩
      · obtain ⟨rfl, hb, _⟩ := hitem 0 (by omega)
        obtain ⟨its, j1, j2, j3⟩ := its_collect W W.heap.size b len o (fun i hi => (hitem i hi).2.2)
        exact ⟨some ⟨b, o, none⟩, its, cap, by rw [j1], .inr ⟨b, o, rfl, hb, j2⟩, j3, by omega, hm, by omega⟩

/-- An argument of steps, nil or not. -/
theorem items_arg {a0 : Option Addr} {len cap : Nat} {d0 : DataW H} {p : List MemPlace} (h0 : DataW.Trod enc Try.prog W 0 (fun _ => true) true 23 (.slice a0 len cap) d0 p) (hw : ∀ z ∈ d0.weights Try.prog 23, z ≤ reachBytes) :
    ∃ its, List.length its = len ∧ ItsIn W W.heap.size a0 its ∧ bds its ∧ len ≤ cap ∧ cap ≤ maxLen := by
  obtain ⟨fuel, hf⟩ := h0
  obtain ⟨a, its, c, hv, h1, h2, h3, h4, _⟩ := items_trod fuel _ (d0, p) hf hw
  injection hv with e1 e2 e3
  subst e1 e2 e3
  exact ⟨its, rfl, h1, h2, h3, h4⟩
end
end Go.Proofs.Ytdnepnnkpaoaaaa
