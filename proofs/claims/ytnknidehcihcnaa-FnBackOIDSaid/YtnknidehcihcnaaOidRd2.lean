/- The contract of ReadASN1ObjectIdentifier, where there is one. -/
import Derived.Test.YtnknidehcihcnaaOidRd
import Derived.OwnWalk
import Derived.Deep.Cut
import Derived.Deep.CutRange
namespace Go.Proofs.Ytnknidehcihcnaa
open Go.RowKit
set_option linter.unusedVariables false

theorem int_info' : (Try.prog.info? 3).map (fun i => (i.zero, i.size, i.bytes)) = some (some (.int .i64 0), 1, 8) := by kernel_rfl
theorem sl_to_int (r n c : Nat) (k : Int) (m : Nat) (hk : k = m) (hm : m ≤ c) (w : World) :
    (Instr.sliceAt 37 (.slice (some ⟨r, 0, none⟩) n c) none (some (.int .i64 k)) none).run Try.prog w = .ok (.slice (some ⟨r, 0, none⟩) m c) w := by
  subst hk
  have ht : Try.prog.underlying 37 = some (.slice (Try.prog.elem 37)) := by kernel_rfl
  have hs : ∀ w, (sizeOf (Try.prog.elem 37)).run Try.prog w = .ok 1 w := fun w => by kernel_rfl
  rw [run_sliceAt_slice w _ _ _ _ _ ht, run_slice_h w _ _ _ _ ht _ _ (by omega) (by omega), hs]
  simp [Result.andThen, sliced, add_plain']

/-- A block of the list that is new is no block of the frame. -/
theorem Fr.shed {S S' : List Nat} {w w' : World} (h : Fr S w w') (hs : ∀ i ∈ S, i ∈ S' ∨ w.heap.size ≤ i) : Fr S' w w' :=
  ⟨h.os, h.tape, h.output, h.size, fun k hk hn => h.block k hk (fun e => by rcases hs k e with h1 | h1; exact hn h1; omega)⟩

/-- A row of ints whose first cells are known. -/
def Row (w : World) (r N : Nat) (l : List Nat) : Prop := ∃ cs : Array Value, Blk w r 3 cs ∧ cs.size = N ∧ cs.toList.take l.length = l.map (fun v : Nat => Value.int .i64 (v : Int)) ∧ (∀ i, i < N → ∃ x : Int, cs[i]? = some (.int .i64 x))
theorem Row.cell {w : World} {r N : Nat} {l : List Nat} (h : Row w r N l) {i : Nat} (hi : i < N) : ∃ x : Int, w.cell? ⟨r, i, none⟩ = some (.int .i64 x) ∧ w.frozen? ⟨r, i, none⟩ = false := by
  obtain ⟨cs, h1, h2, h3, h4⟩ := h
  obtain ⟨x, hx⟩ := h4 i hi
  exact ⟨x, (h1.cell i).trans hx, h1.frozen i⟩
theorem Row.fr {S : List Nat} {w w' : World} {r N : Nat} {l : List Nat} (h : Row w r N l) (hf : Fr S w w') (hr : r ∉ S) : Row w' r N l := by
  obtain ⟨cs, h1, h2⟩ := h
  exact ⟨cs, hf.blk h1 hr, h2⟩
theorem Row.push {w : World} {r N : Nat} {l : List Nat} (h : Row w r N l) (v : Nat) (hl : l.length < N) : Row (w.setCell ⟨r, l.length, none⟩ (.int .i64 (v : Int))) r N (l ++ [v]) := by
  obtain ⟨cs, h1, h2, h3, h4⟩ := h
  refine ⟨_, h1.set_ l.length _, by simpa using h2, ?_, ?_⟩
  · have hlt : l.length < cs.toList.length := by simpa [h2] using hl
    simp only [Array.toList_setIfInBounds, List.length_append, List.length_singleton, List.map_append, List.map_cons, List.map_nil]
    rw [List.take_succ_eq_append_getElem (by simpa using hlt), List.take_set_of_le (by omega), h3]
    simp
  · intro i hi
    by_cases e : i = l.length
    · subst e; exact ⟨v, by simp [h2, hl]⟩
    · obtain ⟨x, hx⟩ := h4 i hi
      exact ⟨x, by rw [Array.getElem?_setIfInBounds]; simp [Ne.symm e, hx]⟩
theorem Row.iin {w : World} {r N : Nat} {l : List Nat} (h : Row w r N l) : IIn w w.heap.size (some ⟨r, 0, none⟩) (l.map Int.ofNat) := fun hn => by
  obtain ⟨cs, h1, h2, h3, h4⟩ := h
  refine ⟨r, 0, rfl, h1.lt, fun i hi => ?_⟩
  rw [List.length_map] at hi
  rw [Nat.zero_add, h1.cell i]
  have : (cs.toList.take l.length)[i]? = cs.toList[i]? := by rw [List.getElem?_take, if_pos hi]
  rw [h3] at this
  rw [← Array.getElem?_toList, ← this]
  simp [List.getD_eq_getElem?_getD, List.getElem?_eq_getElem hi]

theorem rdAll_len {f : Nat} {s : List Int} {l : List Nat} (h : rdAll f s = some l) : l.length ≤ s.length := by
  induction f generalizing s l with
  | zero =>
    cases s with
    | nil => simp only [rdAll, Option.some.injEq] at h; subst h; simp
    | cons b r => cases h
  | succ f ih =>
    cases s with
    | nil => simp only [rdAll, Option.some.injEq] at h; subst h; simp
    | cons b r =>
      simp only [rdAll, Option.bind_eq_some_iff, Option.map_eq_some_iff] at h
      obtain ⟨⟨v, s'⟩, h1, l', h2, rfl⟩ := h
      have h3 : l'.length ≤ s'.length := ih h2
      have : ∀ (i ret : Nat) (xs : List Int) (p : Nat × List Int), rd128 i ret xs = some p → p.2.length < xs.length := by
        intro i ret xs
        induction xs generalizing i ret with
        | nil => intro p h; cases h
        | cons b r ih2 =>
          intro p h
          obtain ⟨b', r', he, _, _, _, h | ⟨_, h⟩⟩ := rd128_step h
          · injection he with h5 h6; subst h6; rw [h.2]; simp
          · injection he with h5 h6; subst h6; have := ih2 _ _ _ h; simp; omega
      have h4 : s'.length < (b :: r).length := this _ _ _ _ h1
      simp only [List.length_cons] at h4 ⊢
      omega
theorem rdAll_cons {f : Nat} {b : Int} {r : List Int} {l : List Nat} (h : rdAll f (b :: r) = some l) : ∃ f' v s' l', f = f' + 1 ∧ rd128 0 0 (b :: r) = some (v, s') ∧ rdAll f' s' = some l' ∧ l = v :: l' := by
  cases f with
  | zero => cases h
  | succ f =>
    simp only [rdAll, Option.bind_eq_some_iff, Option.map_eq_some_iff] at h
    obtain ⟨⟨v, s'⟩, h1, l', h2, rfl⟩ := h
    exact ⟨f, v, s', l', rfl, h1, h2, rfl⟩
theorem rd128_rest {i ret : Nat} {xs : List Int} {p : Nat × List Int} (h : rd128 i ret xs = some p) : p.2.length < xs.length := by
  induction xs generalizing i ret with
  | nil => cases h
  | cons b r ih =>
    obtain ⟨b', r', he, _, _, _, h | ⟨_, h⟩⟩ := rd128_step h
    · injection he with h5 h6; subst h6; rw [h.2]; simp
    · injection he with h5 h6; subst h6; have := ih h; simp; omega

theorem rd128_le {i ret : Nat} {xs : List Int} {p : Nat × List Int} (h : rd128 i ret xs = some p) : p.1 ≤ 2147483647 := by
  induction xs generalizing i ret with
  | nil => cases h
  | cons b r ih =>
    obtain ⟨b', r', he, _, h24, _, h | ⟨_, h⟩⟩ := rd128_step h
    · rw [h.2]; simp only; omega
    · injection he with h5 h6; subst h6; exact ih h

/-- An object identifier has been read. -/
def RdOid (B g go : Nat) (l : List Nat) (rest : List Int) (w : World) (e : Ending) (w' : World) : Prop :=
  e = .returned (.bool true) ∧ Fr [g, go] w w' ∧ SlB w' B g 79 rest.length rest ∧ ∃ r c, Blk w' go 78 #[.slice (some ⟨r, 0, none⟩) l.length c] ∧ l.length ≤ c ∧ c ≤ maxLen ∧ IIn w' w'.heap.size (some ⟨r, 0, none⟩) (l.map Int.ofNat)

set_option maxRecDepth 100000 in
set_option maxHeartbeats 3200000 in
theorem readOID_yes (g go n : Nat) (xs out rest : List Int) (l : List Nat) (B : Nat) (w : World)
    (hs : SlB w B g 79 n xs) (ho : Blk w go 78 #[.slice none 0 0]) (h1 : g ≠ go) (hB : B ≤ g) (hBo : B ≤ go) (hl : Lim n) (hf : firstOf xs 6 = some (out, rest)) (hol : out.length ≤ 16777216) (hr : rdOid out = some l) :
    Calls Try.prog 42 #[.pointer (some ⟨g, 0, none⟩), .pointer (some ⟨go, 0, none⟩)] w (RdOid B g go l rest w) := by
  have hg1 : g < w.heap.size := by obtain ⟨a, c, k, _⟩ := hs; exact k.lt
  have hg2 : go < w.heap.size := ho.lt
  obtain ⟨i0, hi0, hz0, hz1, hz2⟩ := info_parts int_info'
  -- what the reading tells
  unfold rdOid at hr
  simp only [Option.bind_eq_some_iff, Option.map_eq_some_iff] at hr
  obtain ⟨⟨v, s1⟩, hv, l1, hl1, hlE⟩ := hr
  have hv' := rd128_rest hv
  have hl1' := rdAll_len hl1
  have hvb : v ≤ 2147483647 := rd128_le hv
  simp only at hlE hl1 hl1' hv'
  have hout0 : 0 < out.length := by omega
  obtain ⟨w1, hw1⟩ : ∃ w1, w1 = w.alloc (.cells #[.slice none 0 0] 79) := ⟨_, rfl⟩
  have q1 : Fr [] w w1 := by rw [hw1]; exact (Fr.refl _ w).alloc _
  have q2 : Has w1 B w.heap.size 79 := ⟨0, [], ⟨none, 0, by rw [hw1]; exact Blk.new _ _ _, Nat.le_refl _, by simp [maxLen], rfl, BIn.nil _ _ _, Byt.nil⟩, by unfold Lim; omega⟩
  have H := Lib.hid (readASN1t_any g w.heap.size n xs 6 B w1 (hs.fr q1 (by simp) (by simp)) q2 (by omega) hB (by omega) hl)
  have Ho := Lib.hid (q1.blk ho (by simp))
  have Q1 := Lib.hid q1
  have Hf := Lib.hid hf
  have Hv := Lib.hid hv
  have Hl1 := Lib.hid hl1
  have HlE := Lib.hid hlE
  have Hn1 := Lib.hid hv'
  have Hn2 := Lib.hid hl1'
  have HB := Lib.hid (And.intro hB hBo)
  obtain ⟨gb, hgb⟩ : ∃ gb, gb = w.heap.size := ⟨_, rfl⟩
  have Hgb := Lib.hid hgb
  obtain ⟨m, hm⟩ : ∃ m, m = out.length := ⟨_, rfl⟩
  have Hm := Lib.hid hm
  rw [← hm] at hol hout0
  have hm1 : (0 : Int) < (m : Int) := by omega
  have hm2 : ((m : Int) == 0) = false := by simp; omega
  clear hs ho q1 q2 hf hv hl1 hlE hv' hl1' hB hBo hm
  rw [← hgb] at H
  clear hgb
  go_enter Try.func42, Try.ntmps42
  go_wp2_with fail
  rw [← Hgb.out, ← hw1]
  refine H.out.mono ?_
  intro e w2 hp
  unfold AsnPost at hp
  rw [Hf.out] at hp
  obtain ⟨rfl, f, s1, ⟨a3, c3, d1, d2, d3, d4, d5, d6⟩⟩ := hp
  rw [← Hm.out] at d1 d2 d4
  have c0 := d1.one
  have HF := Lib.hid f
  have Hs1 := Lib.hid s1
  have HD := Lib.hid (show SlB w2 B gb 79 m out from ⟨a3, c3, d1, d2, d3, Hm.out.symm, d5, d6⟩)
  have hgb1 : gb < w1.heap.size := by rw [hw1, Hgb.out]; simp
  have K := Lib.hid (f.blk Ho.out (by simp; have := Hgb.out; omega))
  clear f s1 d1 d2 d3 d4 d5 d6 hw1
  go_wp2_with ((refine wpList_make_full _ rfl (.tmp 19) (.tmp 19) 37 rfl w2.heap.size 3 i0 _ 1 Try.underlying37 hi0 hz0 hz1 .i64 .i64 _ _ (m + 1) rfl rfl (by omega) (by omega) (by rw [hz2]; omega) (by unfold maxLen; omega) (Nat.le_refl _) ?_; intro w3 hown hgr))
  obtain ⟨r, hr⟩ : ∃ r, r = w2.heap.size := ⟨_, rfl⟩
  have hw12 := HF.out.size
  have hBB := HB.out
  have hrow : Row w3 r (m + 1) [] := by
    rcases hown.2 with ⟨h, _⟩ | ⟨g', cap', cur, h, _, hg', _, _, hsz, htk⟩
    · simp at h
    · simp only [Value.slice.injEq, Option.some.injEq, Addr.mk.injEq, and_true, true_and] at h
      obtain ⟨h9, h8⟩ := h
      subst h9 h8
      rw [hr]
      refine ⟨cur, hg', by simpa using hsz, by simp, fun i hi => ⟨0, ?_⟩⟩
      have hlt : i < cur.toList.length := by simp; omega
      have h7 : cur.toList = (madeCells (Value.int .i64 0).cells ((m + 1) * 1)).toList := by rw [← htk, List.take_of_length_le (by simp; omega)]
      rw [← Array.getElem?_toList, h7]
      rw [Array.getElem?_toList]
      simp [madeCells, Value.cells, Nat.mod_one, show i < m + 1 from hi]
  have F23 : Fr [] w2 w3 := (Fr.refl [] w2).grown hgr (fun k hk => by cases hk)
  obtain ⟨gv, hgv⟩ : ∃ gv, gv = w3.heap.size := ⟨_, rfl⟩
  obtain ⟨w4, hw4⟩ : ∃ w4, w4 = w3.alloc (.cells #[.int .i64 0] 3) := ⟨_, rfl⟩
  have F24 : Fr [] w2 w4 := by rw [hw4]; exact F23.alloc _
  have hr3 : r < w3.heap.size := by obtain ⟨cs, k, _⟩ := hrow; exact k.lt
  have R4 : Row w4 r (m + 1) [] := by rw [hw4]; exact hrow.fr ((Fr.refl [] w3).alloc _) (by simp)
  have V4 : Blk w4 gv 3 #[.int .i64 0] := by rw [hw4, hgv]; exact Blk.new _ _ _
  have D4 : SlB w4 B gb 79 m out := HD.out.fr F24 (by simp) (by simp)
  have hgbv : gb ≠ gv := by omega
  have hgbr : gb ≠ r := by omega
  have hrv : r ≠ gv := by omega
  have hBgb : B ≤ gb := by have := Hgb.out; omega
  have hBgv : B ≤ gv := by omega
  rw [← hw4, ← hr, ← hgv]
  have HR4 := Lib.hid R4
  have HF24 := Lib.hid F24
  have Hnum := Lib.hid (show gb < w2.heap.size ∧ w2.heap.size ≤ r ∧ w2.heap.size ≤ gv by omega)
  clear hown hgr hrow F23 F24 hw4 R4 hgv hr
  refine (base128_yes gb gv m out v _ 0 B w4 D4 V4 hgbv hBgb hBgv (by unfold Lim; omega) Hv.out).mono ?_
  rintro e w5 ⟨rfl, f5, s5, v5⟩
  have R5 := Lib.hid (HR4.out.fr f5 (by simp; exact ⟨hgbr.symm, hrv⟩))
  have HF5 := Lib.hid f5
  have Hs5 := Lib.hid s5
  have HV5 := Lib.hid v5
  have cv := v5.one
  obtain ⟨x0, r0, rf0⟩ := R5.out.cell (i := 0) (by omega)
  have hm1' : (0 : Int) < (m : Int) + 1 := by omega
  have hm1n : 0 < m + 1 := by omega
  have hm2' : (1 : Int) < (m : Int) + 1 := by omega
  clear f5 s5 v5 D4 V4
  -- the first two arcs
  have hfirst : ∀ (a b : Nat) (w6 : World), w6 = (w5.setCell ⟨r, 0, none⟩ (.int .i64 (a : Int))).setCell ⟨r, 1, none⟩ (.int .i64 (b : Int)) → Row w6 r (m + 1) [a, b] ∧ Fr [r] w5 w6 := by
    intro a b w6 h6
    subst h6
    have h1 := R5.out.push a (by simp)
    have h2 := h1.push b (by simp; omega)
    exact ⟨h2, ((Fr.refl [r] w5).set_ (.inl (by simp)) _).set_ (.inl (by simp)) _⟩
  have Hfirst := Lib.hid hfirst
  clear hfirst
  obtain ⟨x1, r1, rf1⟩ := R5.out.cell (i := 1) (by omega)
  obtain ⟨AB, hAB⟩ : ∃ AB : List Nat, AB = if v < 80 then [v / 40, v % 40] else [2, v - 80] := ⟨_, rfl⟩
  have HAB := Lib.hid hAB
  have hABl : AB.length = 2 := by rw [hAB]; split <;> rfl
  have HABl := Lib.hid hABl
  clear hAB hABl
  go_upto_if 24 with (fail)
  go_cut [] from 23 (fun wc => Row wc r (m + 1) AB ∧ Fr [r] w5 wc)
  case first =>
    by_cases hc : v < 80
    · have hci : (v : Int) < 80 := by omega
      have e1 : (v : Int) / 40 = ((v / 40 : Nat) : Int) := by omega
      have e2 : (v : Int) % 40 = ((v % 40 : Nat) : Int) := by omega
      have E1 := Lib.hid e1
      have E2 := Lib.hid e2
      clear e1 e2
      go_wp2_with fail
      go_meet
      case rel =>
        rw [HAB.out, if_pos hc]
        refine Hfirst.out _ _ _ ?_
        rw [← E1.out, ← E2.out]
    · have hci : ¬ (v : Int) < 80 := by omega
      have e1 : (v : Int) - 80 = ((v - 80 : Nat) : Int) := by omega
      have E1 := Lib.hid e1
      clear e1
      go_wp2_with fail
      go_meet
      case rel =>
        rw [HAB.out, if_neg hc]
        refine Hfirst.out _ _ _ ?_
        rw [← E1.out]
        first | rfl | (congr 2; simp [wrap64]; omega)
  case rest =>
    obtain ⟨R6, F6⟩ := hcut
    have S6 : SlB wc B gb 79 s1.length s1 := Hs5.out.fr F6 (by simp; exact hgbr) (by simp; have := Hnum.out; omega)
    have V6 : Blk wc gv 3 #[.int .i64 v] := F6.blk HV5.out (by simp; exact hrv.symm)
    have HR6 := Lib.hid R6
    have HF6 := Lib.hid F6
    have HS6 := Lib.hid S6
    have HV6 := Lib.hid V6
    clear R6 F6 S6 V6 cv r0 r1 rf0 rf1
    go_wp2_with fail
    go_loopw [8] (fun i wr => ∃ (done : List Nat) (ys : List Int) (fu : Nat) (l2 : List Nat) (y : Int), i = .int .i64 (done.length : Nat) ∧ SlB wr B gb 79 ys.length ys ∧ Hid (rdAll fu ys = some l2) ∧ Hid (done ++ l2 = l) ∧ Row wr r (m + 1) done ∧ Blk wr gv 3 #[.int .i64 y] ∧ Fr [gb, gv, r] w5 wr ∧ ys.length ≤ m ∧ done.length + l2.length ≤ m + 1) (fun i _ => (m + 2 - intOf i).toNat)
    case atStart =>
      refine ⟨AB, s1, out.length, l1, v, ?_, HS6.out, Hl1, Lib.hid ?_, HR6.out, HV6.out, HF6.out.mono (by simp), ?_, ?_⟩
      · rw [HABl.out]; rfl
      · rw [HAB.out]; exact HlE.out
      · have := Hn1.out; have := Hm.out; omega
      · have h1 := Hn1.out; have h2 := Hn2.out; have h3 := Hm.out; have h4 := HABl.out; omega
    case round =>
      obtain ⟨done, ys, fu, l2, y, rfl, hsl, hrd, hdn, hrow, hvb2, hfr, hym, hdl⟩ := hrel
      cases ys with
      | nil =>
        have hl2 : l2 = [] := by
          have := hrd.out
          cases fu <;> simp [rdAll] at this <;> exact this
        subst hl2
        obtain ⟨a9, c9, k9, _⟩ := hsl
        have cs : wr.cell? ⟨gb, 0, none⟩ = some (.slice a9 0 c9) := k9.one
        have Hrow := Lib.hid hrow
        have Hfr := Lib.hid hfr
        have ho9 : Blk wr go 78 #[.slice none 0 0] := Hfr.out.blk (HF5.out.blk (HF24.out.blk K.out (by simp)) (by have := Hnum.out; have := Hgb.out; simp; omega)) (by have := Hnum.out; have := Hgb.out; simp; omega)
        have o9 := ho9.one
        have of9 := ho9.frozen 0
        have Ho9 := Lib.hid ho9
        have hdone : done.length ≤ m + 1 := by omega
        have sl := fun W => sl_to_int r (m + 1) (m + 1) (done.length : Nat) done.length rfl hdone W
        have hle : done.length ≤ 16777217 := by omega
        have Hs9 := Lib.hid (Hs1.out)
        clear k9 hrow hfr ho9 hdl
        have hn := Hnum.out
        have hgbw := Hgb.out
        have FA : Fr [g, gb] w w2 := (Q1.out.mono (S' := [g, gb]) (by simp)).trans HF.out (fun i hi => .inl hi)
        have FB : Fr [gb, gv, r] w2 wr := ((HF24.out.mono (S' := [gb, gv, r]) (by simp)).trans (HF5.out.mono (S' := [gb, gv, r]) (by simp)) (fun i hi => .inl hi)).trans Hfr.out (fun i hi => .inl hi)
        have FC : Fr [g, go] w wr := (FA.mono (S' := [g, gb, go]) (by simp)).trans FB (fun i hi => by simp at hi; rcases hi with rfl | rfl | rfl; exact .inl (by simp); exact .inr (by omega); exact .inr (by omega)) |>.shed (fun i hi => by simp at hi ⊢; rcases hi with rfl | rfl | rfl; exact .inl (.inl rfl); exact .inr (by omega); exact .inl (.inr rfl))
        have HFC := Lib.hid FC
        have HFB := Lib.hid FB
        have HGW := Lib.hid hgbw
        clear FA FB FC hgbw
        go_wp2_with fail
        go_ret
        have hgbw := HGW.out
        have fgo : Fr [go] wr (wr.setCell ⟨go, 0, none⟩ (.slice (some ⟨r, 0, none⟩) done.length (m + 1))) := (Fr.refl [go] wr).set_ (.inl (by simp)) _
        have hl' : l = done := by have := hdn.out; rw [List.append_nil] at this; exact this.symm
        subst hl'
        refine ⟨rfl, (HFC.out).trans (fgo.mono (S' := [g, go]) (by simp)) (fun i hi => .inl hi), ?_, r, m + 1, Ho9.out.set_ 0 _, hdone, by unfold maxLen; omega, (Hrow.out.fr fgo (by simp; omega)).iin⟩
        exact (Hs9.out.fr HFB.out (by simp; omega) (by simp; omega)).fr fgo (by simp; exact h1) (by simp; omega)
      | cons b ys' =>
        obtain ⟨fu', v2, s2, l3, rfl, hv2, hl3, rfl⟩ := rdAll_cons hrd.out
        have hs2 := rd128_rest hv2
        simp only [List.length_cons] at hs2 hym hdl
        have hsl' := hsl
        obtain ⟨a9, c9, k9, _⟩ := hsl'
        have cs := k9.one
        have hk : done.length < m + 1 := by omega
        have Hrow := Lib.hid hrow
        have Hfr := Lib.hid hfr
        have BA := Lib.hid (base128_yes gb gv _ (b :: ys') v2 s2 y B wr hsl hvb2 hgbv hBgb hBgv (by unfold Lim; simp only [List.length_cons]; omega) hv2)
        obtain ⟨q, hq⟩ : ∃ q, q = (b :: ys').length := ⟨_, rfl⟩
        have hq0 : 0 < q := by rw [hq]; simp
        have hq0' : (0 : Int) < (q : Int) := by omega
        rw [← hq] at cs
        have hq1 : q = ys'.length + 1 := by rw [hq]; rfl
        have Hs2 := Lib.hid hs2
        have Hl3 := Lib.hid hl3
        obtain ⟨t, ht⟩ : ∃ t, t = done.length := ⟨_, rfl⟩
        have Ht := Lib.hid ht
        rw [← ht] at hk
        have hk2 : (t : Int) < (m : Int) + 1 := by omega
        have hdl2 : t + (l3.length + 1) ≤ m + 1 := by omega
        have Hq1 := Lib.hid hq1
        clear hrow hfr hsl hvb2 k9 hq hs2 hv2 hrd hl3 hdl
        rw [← ht]
        clear ht hq1
        go_wp2_with fail
        refine BA.out.mono ?_
        rintro e w7 ⟨rfl, f7, s7, v7⟩
        have R7 := Hrow.out.fr f7 (by simp; exact ⟨hgbr.symm, hrv⟩)
        obtain ⟨x7, r7, rf7⟩ := R7.cell hk
        have cv7 := v7.one
        have HR7 := Lib.hid R7
        have HF7 := Lib.hid f7
        have HS7 := Lib.hid s7
        have HV7 := Lib.hid v7
        clear R7 f7 s7 v7 cs
        go_wp2_with fail
        go_roundw
        case rel =>
          have hn := Hnum.out
          have e1 := Ht.out
          have f8 : Fr [r] w7 (w7.setCell ⟨r, t, none⟩ (.int .i64 (v2 : Int))) := (Fr.refl [r] w7).set_ (.inl (by simp)) _
          have R8 := HR7.out.push v2 (by omega)
          rw [← e1] at R8
          refine ⟨done ++ [v2], s2, fu', l3, v2, by rw [e1]; simp, HS7.out.fr f8 (by simp; exact hgbr) (by simp; omega), Hl3, Lib.hid (by have := hdn.out; rw [← this]; simp), R8, f8.blk HV7.out (by simp; exact hrv.symm), ?_, ?_, ?_⟩
          · exact (Hfr.out.trans (HF7.out.mono (S' := [gb, gv, r]) (by simp)) (fun i hi => .inl hi)).trans (f8.mono (S' := [gb, gv, r]) (by simp)) (fun i hi => .inl hi)
          · have := Hs2.out; omega
          · rw [List.length_append, List.length_singleton]; omega
        case measure => first | (simp [intOf]; done) | (simp [intOf]; omega)
end Go.Proofs.Ytnknidehcihcnaa
