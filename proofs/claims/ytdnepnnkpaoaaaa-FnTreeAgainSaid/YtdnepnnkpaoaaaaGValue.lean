/- The contracts of value.Marshal, (*Builder).AddValue, and of Unwrite on a builder that holds no error. -/
import Derived.Test.YtdnepnnkpaoaaaaGItem
namespace Go.Proofs.Ytdnepnnkpaoaaaa
open Go.RowKit
set_option linter.unusedVariables false

/-- What the steps of a value leave: their own outcome; an error of its own where it is bad. -/
def MarshP (bad : Bool) (Rs : Ending → World → Prop) (e : Ending) (w' : World) : Prop :=
  (Panics e ∧ Rs e w') ∨ (bad = false ∧ e = .returned .nilIface ∧ Rs (.returned (.tuple #[])) w') ∨ (bad = true ∧ (∃ t u, e = .returned (.iface t u)) ∧ ∃ w2, Rs (.returned (.tuple #[])) w2 ∧ Fr [] w2 w')

set_option maxRecDepth 100000 in
set_option maxHeartbeats 1600000 in
theorem marshal_any (g : Nat) (a : Option Addr) (m c : Nat) (bad : Bool) (S : List Nat) (w : World) (Rs : Ending → World → Prop) (hR : Ends Rs) (hS : ∀ i ∈ S, i < w.heap.size)
    (h : Calls Try.prog 32 #[.pointer (some ⟨g, 0, none⟩), .slice a m c] (w.alloc (.cells #[.slice a m c, .bool bad] 121)) fun e w2 => Rs e w2 ∧ Fr S (w.alloc (.cells #[.slice a m c, .bool bad] 121)) w2) :
    Calls Try.prog 130 #[.agg #[.slice a m c, .bool bad], .pointer (some ⟨g, 0, none⟩)] w (MarshP bad Rs) := by
  have H := Lib.hid h
  have HR := Lib.hid hR
  have HS := Lib.hid hS
  clear h hR hS
  go_enter Try.func130, Try.ntmps130
  go_wp2_with fail
  refine H.out.mono ?_
  rintro e w2 ⟨hq, hf⟩
  rcases HR.out e w2 hq with rfl | ⟨t9, u9, rfl⟩
  · have b2 := hf.blk (Blk.new w 121 #[.slice a m c, .bool bad]) (fun h => by have := HS.out _ h; omega)
    have c1 : w2.cell? ⟨w.heap.size, 1, none⟩ = some (.bool bad) := b2.cell 1
    have Hq := Lib.hid hq
    clear hq hf b2
    cases bad
    · go_wp2_with fail
      go_ret
      exact .inr (.inl ⟨rfl, rfl, Hq.out⟩)
    · go_wp2_with fail
      refine (new_err _ _).mono ?_
      rintro e w3 ⟨u, rfl, f3⟩
      have HF3 := Lib.hid f3
      clear f3
      go_wp2_with fail
      go_ret
      exact .inr (.inr ⟨rfl, ⟨_, _, rfl⟩, w2, Hq.out, HF3.out⟩)
  · exact ⟨rfl, .inl ⟨⟨t9, u9, rfl⟩, hq⟩⟩

/-- What AddValue leaves. -/
def AddVP (g : Nat) (bad : Bool) (Rs : Ending → World → Prop) (e : Ending) (w' : World) : Prop :=
  (Panics e ∧ Rs e w') ∨ (e = .returned (.tuple #[]) ∧ ((bad = false ∧ Rs (.returned (.tuple #[])) w') ∨ (bad = true ∧ ∃ t u w2 w3, Rs (.returned (.tuple #[])) w2 ∧ Fr [] w2 w3 ∧ w' = w3.setCell ⟨g, 0, none⟩ (.iface t u))))

set_option maxRecDepth 100000 in
set_option maxHeartbeats 1600000 in
theorem addValue_any (g : Nat) (a : Option Addr) (m c : Nat) (bad : Bool) (S : List Nat) (w : World) (Rs : Ending → World → Prop) (hR : Ends Rs) (hS : ∀ i ∈ S, i < w.heap.size)
    (hg : ∀ w2, Rs (.returned (.tuple #[])) w2 → ∃ ev v1 v2 v3 v4 v5 v6 v7, Blk w2 g 65 #[ev, v1, v2, v3, v4, v5, v6, v7])
    (h : Calls Try.prog 32 #[.pointer (some ⟨g, 0, none⟩), .slice a m c] (w.alloc (.cells #[.slice a m c, .bool bad] 121)) fun e w2 => Rs e w2 ∧ Fr S (w.alloc (.cells #[.slice a m c, .bool bad] 121)) w2) :
    Calls Try.prog 89 #[.pointer (some ⟨g, 0, none⟩), .iface 121 (.agg #[.slice a m c, .bool bad])] w (AddVP g bad Rs) := by
  have H := Lib.hid (marshal_any g a m c bad S w Rs hR hS h)
  have HG := Lib.hid hg
  have hm : ∀ w, (method 260 121 (.agg #[.slice a m c, .bool bad]) "Marshal").run Try.prog w = .ok (130, .agg #[.slice a m c, .bool bad]) w := fun _ => by kernel_rfl
  clear h hR hS hg
  go_enter Try.func89, Try.ntmps89
  go_wp2_with fail
  refine H.out.mono ?_
  rintro e w2 (⟨hp, hq⟩ | ⟨hb, rfl, hq⟩ | ⟨hb, ⟨t, u, rfl⟩, w3, hq, hf⟩)
  · obtain ⟨t, u, rfl⟩ := hp
    exact ⟨rfl, .inl ⟨⟨t, u, rfl⟩, hq⟩⟩
  · have Hq := Lib.hid hq
    have Hb := Lib.hid hb
    clear hq hb
    go_wp2_with fail
    first | go_end0 | refine bodyPost_ret (results_none rfl _ _ _) rfl ?_
    exact .inr ⟨rfl, .inl ⟨Hb.out, Hq.out⟩⟩
  · obtain ⟨ev, v1, v2, v3, v4, v5, v6, v7, k⟩ := HG.out w3 hq
    have k2 := hf.blk k (by simp)
    have c0 : w2.cell? ⟨g, 0, none⟩ = some ev := k2.cell 0
    have f0 := k2.frozen 0
    have Hq := Lib.hid hq
    have Hb := Lib.hid hb
    have Hf := Lib.hid hf
    clear hq hb hf k k2
    go_wp2_with fail
    first | go_end0 | refine bodyPost_ret (results_none rfl _ _ _) rfl ?_
    exact .inr ⟨rfl, .inr ⟨Hb.out, t, u, w3, w2, Hq.out, Hf.out, rfl⟩⟩

/-- 's[:k]' of bytes. -/
theorem sl_to (a : Option Addr) (n c : Nat) (k : Int) (m : Nat) (hk : k = m) (hm : m ≤ n) (hn : n ≤ c) (w : World) :
    (Instr.sliceAt 22 (.slice a n c) none (some (.int .i64 k)) none).run Try.prog w = .ok (.slice (cutA a c 0) m c) w := by
  subst hk
  have ht : Try.prog.underlying 22 = some (.slice (Try.prog.elem 22)) := by kernel_rfl
  have hs : ∀ w, (sizeOf (Try.prog.elem 22)).run Try.prog w = .ok 1 w := fun w => by kernel_rfl
  rw [run_sliceAt_slice w _ _ _ _ _ ht, run_slice_h w _ a n c ht _ _ (by omega) (by omega), hs]
  simp [Result.andThen, sliced, cutA]
theorem cutA_zero (r c : Nat) : cutA (some ⟨r, 0, none⟩) c 0 = some ⟨r, 0, none⟩ := by
  unfold cutA
  split
  · rfl
  · simp [add_plain']
theorem OwnB.take {w : World} {base e n c : Nat} {a : Option Addr} {xs : List Int} (h : OwnB w base e (.slice a n c) xs) (hn : xs.length = n) {k : Nat} (hk : k ≤ n) : OwnB w base e (.slice (cutA a c 0) k c) (xs.take k) := by
  subst hn
  have hl : (xs.take k).length = k := by simp; omega
  rcases h.2 with ⟨h', h0⟩ | ⟨g, cap, cur, h', hb, hg, h1, h2, h3, h4⟩
  · injection h' with h8 h9 h10
    subst h8 h10
    have hx : xs = [] := List.eq_nil_of_length_eq_zero h0
    have hk0 : k = 0 := by omega
    subst hx hk0
    exact OwnB.nil _ _ _
  · injection h' with h8 h9 h10
    subst h8 h10
    rw [cutA_zero]
    unfold OwnB
    rw [hl]
    refine ⟨by simp; omega, .inr ⟨g, c, cur, rfl, hb, hg, by omega, h2, h3, ?_⟩⟩
    rw [Nat.mul_one, List.map_take, ← h4, List.take_take, Nat.mul_one, Nat.min_eq_left hk]

set_option maxRecDepth 100000 in
set_option maxHeartbeats 1600000 in
theorem gUnwrite (K : Kd) (base g off pl : Nat) (pb : Bool) (xs : List Int) (ic : Value) (rb : Option Nat) (ins : Bool) (dep M : Nat) (w : World) (n : Nat)
    (hg : Bld K w base g xs off pl pb ic rb) (hfl : Flag w base ic ins) (hn : off + pl + n ≤ xs.length) (hfx : K.fix = none) (hl : xs.length ≤ 4194304000) :
    Calls Try.prog 88 #[.pointer (some ⟨g, 0, none⟩), .int .i64 n] w (Outc K base g off pl pb ic rb ins dep M w (some (xs.take (xs.length - n)))) := by
  have Hfl := Lib.hid hfl
  have Hbld := Lib.hid hg
  obtain ⟨v, hg, hown, hrb, hfix⟩ := hg
  obtain ⟨av, cv, rfl, hlc, hcv, _, _⟩ := hown.form
  obtain ⟨m, hm⟩ : ∃ m, m = xs.length := ⟨_, rfl⟩
  have c0 : w.cell? ⟨g, 0, none⟩ = some .nilIface := hg.cell 0
  have c1 : w.cell? ⟨g, 1, none⟩ = some (.slice av m cv) := by rw [hm]; exact hg.cell 1
  have c3 : w.cell? ⟨g, 3, none⟩ = some (.pointer none) := hg.cell 3
  have c4 : w.cell? ⟨g, 4, none⟩ = some (.int .i64 (off : Int)) := hg.cell 4
  have c5 : w.cell? ⟨g, 5, none⟩ = some (.int .i64 (pl : Int)) := hg.cell 5
  have f1 := hg.frozen 1
  rw [← hm] at hn hl hlc
  have e1 : IntKind.i64.wrap ((m : Int) - (pl : Int)) = (m : Int) - (pl : Int) := IntWalk.i64_in _ (by omega)
  have e2 : IntKind.i64.wrap ((m : Int) - (pl : Int) - (off : Int)) = (m : Int) - (pl : Int) - (off : Int) := IntWalk.i64_in _ (by omega)
  have e3 : IntKind.i64.wrap ((m : Int) - (n : Int)) = (m : Int) - (n : Int) := IntWalk.i64_in _ (by omega)
  have t1 : decide ((m : Int) - (pl : Int) - (off : Int) < 0) = false := by rw [decide_eq_false_iff_not]; omega
  have t2 : decide ((m : Int) - (pl : Int) - (off : Int) < (n : Int)) = false := by rw [decide_eq_false_iff_not]; omega
  have sl := fun W => sl_to av m cv ((m : Int) - (n : Int)) (m - n) (by omega) (by omega) hlc W
  have Hg := Lib.hid hg
  have Ho := Lib.hid hown
  have Hm := Lib.hid hm
  have Hrb := Lib.hid hrb
  have Hn := Lib.hid hn
  have Hne := Lib.hid (hown.ne_blk hg (by decide))
  clear hg hown hm hrb hfl hfix hlc hcv
  obtain ⟨CA, hCA⟩ : ∃ CA, CA = cutA av cv 0 := ⟨_, rfl⟩
  have HCA := Lib.hid hCA
  rw [← hCA] at sl
  clear hCA
  go_enter Try.func88, Try.ntmps88
  go_wp2_with fail
  go_quiet (fail)
  clear hn
  go_wp2_with fail
  refine region_tail 15 (by kernel_rfl) (by kernel_rfl) ?_
  simp only [List.take_succ_cons, List.take_zero, List.drop_succ_cons, List.drop_zero]
  repeat still_step
  refine wpStill_nil ?_
  go_wp2_with fail
  go_end0
  have hn := Hn.out
  have hm := Hm.out
  have O2 : OwnB (w.drewN nq).drew base 5 (.slice CA (m - n) cv) (xs.take (m - n)) := by rw [HCA.out]; exact Ho.out.take rfl (by omega)
  have hrow : ∀ k, (Value.slice CA (m - n) cv).ownBlock = some k → rb = some k := by
    intro k hk
    rw [← Hrb.out, ← hk, HCA.out]
    rcases Ho.out.2 with ⟨h, _⟩ | ⟨g', cap, cur, h, _⟩
    · injection h with h1 h2 h3; subst h1; subst h3; rfl
    · injection h with h1 h2 h3; subst h1; rw [cutA_zero]; rfl
  refine Outc.of_add Hbld.out Hfl.out ⟨rfl, rb, ⟨.slice CA (m - n) cv, ?_, ?_, ?_, ?_⟩, ?_, .inl rfl⟩
  · exact ((Hg.out.drewN nq).drew).set_ 1 _
  · rw [← hm]
    exact O2.fr (S := [g]) ((Fr.refl [g] _).set_ (p := ⟨g, 1, none⟩) (.inl (by simp)) _) (fun k hk e => by
      simp at e
      subst e
      exact Hne.out (by rw [Hrb.out]; exact hrow k hk))
  · rw [← Hrb.out, HCA.out]
    rcases Ho.out.2 with ⟨h, _⟩ | ⟨g', cap, cur, h, _⟩
    · injection h with h1 h2 h3; subst h1; subst h3; rfl
    · injection h with h1 h2 h3; subst h1; rw [cutA_zero]; rfl
  · intro r hr; rw [hfx] at hr; cases hr
  · exact ((((Fr.refl (g :: rb.toList) w).drewN nq).drew).set_ (p := ⟨g, 1, none⟩) (.inl (by simp)) _)
end Go.Proofs.Ytdnepnnkpaoaaaa
