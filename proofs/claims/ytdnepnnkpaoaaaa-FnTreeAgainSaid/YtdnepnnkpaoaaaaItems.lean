/- Steps of building in memory. -/
import Derived.Test.YtdnepnnkpaoaaaaTree
import Derived.Test.YtdnepnnkpaoaaaaGValue
namespace Go.Proofs.Ytdnepnnkpaoaaaa
open Go.RowKit
set_option linter.unusedVariables false

mutual
/-- At this address lies this step; all that it leads to lies below block B. -/
def ItAt (w : World) (B b o : Nat) : It → Prop
  | .mk kd n t d oi ks =>
    w.cell? ⟨b, o, none⟩ = some (.int .i64 kd) ∧ w.cell? ⟨b, o + 1, none⟩ = some (.int .i64 n) ∧ w.cell? ⟨b, o + 2, none⟩ = some (.int .i64 t) ∧ (-9223372036854775808 ≤ n ∧ n ≤ 9223372036854775807) ∧
    (∃ a c, w.cell? ⟨b, o + 3, none⟩ = some (.slice a d.length c) ∧ d.length ≤ c ∧ c ≤ maxLen ∧ BIn w B a d ∧ Byt d) ∧
    (∃ a c, w.cell? ⟨b, o + 4, none⟩ = some (.slice a oi.length c) ∧ oi.length ≤ c ∧ c ≤ maxLen ∧ IIn w B a oi) ∧
    (∃ a c, w.cell? ⟨b, o + 5, none⟩ = some (.slice a ks.length c) ∧ ks.length ≤ c ∧ c ≤ maxLen ∧ (ks = [] ∨ ∃ b' o', a = some ⟨b', o', none⟩ ∧ b' < B ∧ ItsAt w B b' o' ks))
def ItsAt (w : World) (B b o : Nat) : List It → Prop
  | [] => True
  | x :: xs => ItAt w B b o x ∧ ItsAt w B b (o + 6) xs
end
/-- The address leads to these steps, below block B. -/
def ItsIn (w : World) (B : Nat) (a : Option Addr) (ks : List It) : Prop := ks = [] ∨ ∃ b o, a = some ⟨b, o, none⟩ ∧ b < B ∧ ItsAt w B b o ks

mutual
theorem ItAt.keep {w w' : World} {B : Nat} (hk : ∀ p : Addr, p.block < B → w'.cell? p = w.cell? p) (b o : Nat) (hb : b < B) : ∀ x : It, ItAt w B b o x → ItAt w' B b o x
  | .mk kd n t d oi ks, h => by
    unfold ItAt at h ⊢
    obtain ⟨h0, h1, h2, hn, ⟨a3, c3, h3, l3, m3, b3, y3⟩, ⟨a4, c4, h4, l4, m4, b4⟩, ⟨a5, c5, h5, l5, m5, k5⟩⟩ := h
    refine ⟨(hk _ hb).trans h0, (hk _ hb).trans h1, (hk _ hb).trans h2, hn, ⟨a3, c3, (hk _ hb).trans h3, l3, m3, b3.keep hk, y3⟩, ⟨a4, c4, (hk _ hb).trans h4, l4, m4, b4.keep hk⟩, ⟨a5, c5, (hk _ hb).trans h5, l5, m5, ?_⟩⟩
    rcases k5 with h | ⟨b', o', h, hb', hi⟩
    · exact .inl h
    · exact .inr ⟨b', o', h, hb', ItsAt.keep hk b' o' hb' ks hi⟩
theorem ItsAt.keep {w w' : World} {B : Nat} (hk : ∀ p : Addr, p.block < B → w'.cell? p = w.cell? p) (b o : Nat) (hb : b < B) : ∀ xs : List It, ItsAt w B b o xs → ItsAt w' B b o xs
  | [], h => by unfold ItsAt; trivial
  | x :: xs, h => by
    unfold ItsAt at h ⊢
    exact ⟨ItAt.keep hk b o hb x h.1, ItsAt.keep hk b (o + 6) hb xs h.2⟩
end
theorem ItsIn.keep {w w' : World} {B : Nat} {a : Option Addr} {ks : List It} (h : ItsIn w B a ks) (hk : ∀ p : Addr, p.block < B → w'.cell? p = w.cell? p) : ItsIn w' B a ks := by
  rcases h with h | ⟨b, o, h, hb, hi⟩
  · exact .inl h
  · exact .inr ⟨b, o, h, hb, ItsAt.keep hk b o hb ks hi⟩
/-- A frame whose blocks are old ones leaves the cells below B. -/
theorem Fr.cells {S : List Nat} {w w' : World} {B : Nat} (hf : Fr S w w') (hB : B ≤ w.heap.size) (hS : ∀ i ∈ S, B ≤ i) : ∀ p : Addr, p.block < B → w'.cell? p = w.cell? p := fun p hp =>
  World.cell?_of_block (hf.block _ (by omega) (fun h => by have := hS _ h; omega))
theorem Fr.its {S : List Nat} {w w' : World} {B : Nat} {a : Option Addr} {ks : List It} (hf : Fr S w w') (hB : B ≤ w.heap.size) (hS : ∀ i ∈ S, B ≤ i) (h : ItsIn w B a ks) : ItsIn w' B a ks := h.keep (hf.cells hB hS)
theorem ItsAt.get {w : World} {B : Nat} : ∀ (b o : Nat) (xs : List It), ItsAt w B b o xs → ∀ (i : Nat) (x : It), xs[i]? = some x → ItAt w B b (o + i * 6) x
  | b, o, [], _, i, x, hi => by simp at hi
  | b, o, y :: ys, h, 0, x, hi => by
    unfold ItsAt at h
    simp only [List.getElem?_cons_zero, Option.some.injEq] at hi
    subst hi
    simpa using h.1
  | b, o, y :: ys, h, i + 1, x, hi => by
    unfold ItsAt at h
    simp only [List.getElem?_cons_succ] at hi
    have := ItsAt.get b (o + 6) ys h.2 i x hi
    rw [show o + (i + 1) * 6 = o + 6 + i * 6 by omega]
    exact this
theorem ItsAt.drop {w : World} {B : Nat} : ∀ (b o : Nat) (xs : List It), ItsAt w B b o xs → ∀ i, ItsAt w B b (o + 6 * i) (xs.drop i)
  | b, o, xs, h, 0 => by simpa using h
  | b, o, [], h, i + 1 => by simp [ItsAt]
  | b, o, y :: ys, h, i + 1 => by
    unfold ItsAt at h
    have := ItsAt.drop b (o + 6) ys h.2 i
    rw [show o + 6 * (i + 1) = o + 6 + 6 * i by omega, List.drop_succ_cons]
    exact this

/-- The function that does a step of this Kind. -/
def itemFn (kd : Int) : FuncId := if kd ≤ 6 then 45 else if kd ≤ 11 then 46 else if kd ≤ 20 then 47 else 48
/-- A step by value; all that it leads to lies below block B. -/
def ItV (w : World) (B : Nat) : It → Value → Prop
  | .mk kd n t d oi ks, v => (-9223372036854775808 ≤ n ∧ n ≤ 9223372036854775807) ∧ ∃ a3 c3 a4 c4 a5 c5, v = .agg #[.int .i64 kd, .int .i64 n, .int .i64 t, .slice a3 d.length c3, .slice a4 oi.length c4, .slice a5 ks.length c5] ∧
    (d.length ≤ c3 ∧ c3 ≤ maxLen ∧ BIn w B a3 d ∧ Byt d) ∧ (oi.length ≤ c4 ∧ c4 ≤ maxLen ∧ IIn w B a4 oi) ∧ (ks.length ≤ c5 ∧ c5 ≤ maxLen ∧ ItsIn w B a5 ks)
def It.kd : It → Int
  | .mk kd _ _ _ _ _ => kd
theorem ItV.keep {w w' : World} {B : Nat} {x : It} {v : Value} (h : ItV w B x v) (hk : ∀ p : Addr, p.block < B → w'.cell? p = w.cell? p) : ItV w' B x v := by
  obtain ⟨kd, n, t, d, oi, ks⟩ := x
  obtain ⟨hn, a3, c3, a4, c4, a5, c5, h, ⟨h1, h2, h3, h4⟩, ⟨h5, h6, h7⟩, ⟨h8, h9, h10⟩⟩ := h
  exact ⟨hn, a3, c3, a4, c4, a5, c5, h, ⟨h1, h2, h3.keep hk, h4⟩, ⟨h5, h6, h7.keep hk⟩, ⟨h8, h9, h10.keep hk⟩⟩

/-- The outcome of one step of several. -/
def StepR (Inv : Nat → World → Prop) (k : Nat) (R : Ending → World → Prop) (e : Ending) (w' : World) : Prop := (e = .returned (.tuple #[]) ∧ Inv (k + 1) w') ∨ (Panics e ∧ R e w')

set_option maxRecDepth 100000 in
set_option maxHeartbeats 3200000 in
theorem steps_loop (g B n c : Nat) (a : Option Addr) (its : List It) (w : World) (Inv : Nat → World → Prop) (R : Ending → World → Prop) (hn : its.length = n) (hnm : n ≤ 4194304000) (hits : ItsIn w B a its) (h0 : Inv 0 w)
    (hfr : ∀ k wr, Inv k wr → ∀ p : Addr, p.block < B → wr.cell? p = w.cell? p)
    (hstep : ∀ k x v wr w1, its[k]? = some x → Inv k wr → Fr [] wr w1 → ItV wr B x v → Calls Try.prog (itemFn x.kd) #[.pointer (some ⟨g, 0, none⟩), v] w1 (StepR Inv k R))
    (hend : ∀ wr, Inv n wr → R (.returned (.tuple #[])) wr) :
    Calls Try.prog 32 #[.pointer (some ⟨g, 0, none⟩), .slice a n c] w R := by
  have Hn := Lib.hid hn
  have Hi := Lib.hid hits
  have H0 := Lib.hid h0
  have Hf := Lib.hid hfr
  have Hs := Lib.hid hstep
  have He := Lib.hid hend
  clear hn hits h0 hfr hstep hend
  go_enter Try.func32, Try.ntmps32
  go_wp2_with fail
  go_loopw [8] (fun i wr => ∃ k : Nat, k ≤ n ∧ i = .int .i64 k ∧ Inv k wr) (fun i _ => n - (intOf i).toNat)
  case atStart => exact ⟨0, Nat.zero_le _, rfl, H0.out⟩
  case round =>
    obtain ⟨k, hk, rfl, hinv⟩ := hrel
    have Hinv := Lib.hid hinv
    clear hinv
    by_cases hlt : k < n
    · have hk' : k < its.length := by rw [Hn.out]; exact hlt
      rcases Hi.out with h | ⟨b, o, rfl, hb, hat⟩
      · rw [h] at hk'; simp at hk'
      · have hx : its[k]? = some its[k] := List.getElem?_eq_getElem hk'
        have hat' := ItAt.keep (Hf.out k wr Hinv.out) b (o + k * 6) hb _ (ItsAt.get b o its hat k _ hx)
        obtain ⟨x, hxx⟩ : ∃ x, x = its[k] := ⟨_, rfl⟩
        rw [← hxx] at hx hat'
        obtain ⟨kd, nn, t, d, oi, ks⟩ := x
        unfold ItAt at hat'
        obtain ⟨g0, g1, g2, gn, ⟨a3, c3, g3, l3, m3, b3, y3⟩, ⟨a4, c4, g4, l4, m4, b4⟩, ⟨a5, c5, g5, l5, m5, k5⟩⟩ := hat'
        have HV := Lib.hid (show ItV wr B (.mk kd nn t d oi ks) (.agg #[.int .i64 kd, .int .i64 nn, .int .i64 t, .slice a3 d.length c3, .slice a4 oi.length c4, .slice a5 ks.length c5]) from ⟨gn, a3, c3, a4, c4, a5, c5, rfl, ⟨l3, m3, b3, y3⟩, ⟨l4, m4, b4⟩, ⟨l5, m5, k5⟩⟩)
        have HX := Lib.hid hx
        have hcall := Lib.hid (fun w1 hf1 => Hs.out k _ _ wr w1 HX.out Hinv.out hf1 HV.out)
        clear hat hx hxx gn l3 m3 b3 y3 l4 m4 b4 l5 m5 k5 hk'
        simp only [It.kd, itemFn] at hcall
        have hkd : kd ≤ 6 ∨ (¬ kd ≤ 6 ∧ kd ≤ 11) ∨ (¬ kd ≤ 6 ∧ ¬ kd ≤ 11 ∧ kd ≤ 20) ∨ (¬ kd ≤ 6 ∧ ¬ kd ≤ 11 ∧ ¬ kd ≤ 20) := by omega
        obtain ⟨N3, hN3⟩ : ∃ N3, N3 = d.length := ⟨_, rfl⟩
        obtain ⟨N4, hN4⟩ : ∃ N4, N4 = oi.length := ⟨_, rfl⟩
        obtain ⟨N5, hN5⟩ : ∃ N5, N5 = ks.length := ⟨_, rfl⟩
        rw [← hN3] at g3 hcall
        rw [← hN4] at g4 hcall
        rw [← hN5] at g5 hcall
        clear hN3 hN4 hN5
        have HC := hcall
        clear hcall
        rcases hkd with h6 | ⟨h6, h11⟩ | ⟨h6, h11, h20⟩ | ⟨h6, h11, h20⟩
        all_goals (
          have HK := HC
          simp only [h6, ↓reduceIte] at HK
          try simp only [h11, ↓reduceIte] at HK
          try simp only [h20, ↓reduceIte] at HK
          have HKK := Lib.hid HK.out
          clear HK
          go_wp2_with fail
          refine (HKK.out _ ((Fr.refl [] wr).alloc _)).mono ?_
          rintro e w9 (⟨rfl, hq⟩ | ⟨⟨t9, u9, rfl⟩, hq⟩)
          · have Hq := Lib.hid hq
            clear hq
            go_wp2_with fail
            go_roundw
            case rel => exact ⟨k + 1, by omega, by go_num, Hq.out⟩
            case measure => first | (simp [intOf]; done) | (simp [intOf]; omega)
          · exact ⟨rfl, hq⟩)
    · have hkn : k = n := by omega
      subst hkn
      go_wp2_with fail
      go_end0
      exact He.out _ Hinv.out
end Go.Proofs.Ytdnepnnkpaoaaaa
