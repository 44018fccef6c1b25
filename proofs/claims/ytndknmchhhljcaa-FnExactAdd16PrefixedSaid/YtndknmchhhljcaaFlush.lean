/- The contract of (*Builder).flushChild, where the builder's child has no child and no error. -/
import Derived.Test.YtndknmchhhljcaaCont
import Derived.IntWalk
namespace Go.Proofs.Ytndknmchhhljcaa
open Go.RowKit
set_option linter.unusedVariables false

set_option maxRecDepth 100000 in
theorem flush_none (g : Nat) (w : World) (c3 : w.cell? ⟨g, 3, none⟩ = some (.pointer none)) :
    Calls Try.prog 147 #[.pointer (some ⟨g, 0, none⟩)] w fun e w' => e = .returned (.tuple #[]) ∧ w = w' := by
  go_enter Try.func147, Try.ntmps147
  go_wp2_with fail
  refine bodyPost_ret (results_none rfl _ _ _) rfl ?_
  exact ⟨rfl, rfl⟩

/-- The cells of a builder that is not fixed, and has no error, with a child. -/
abbrev pCs (v : Value) (gc : Nat) (off pl : Int) (pa : Bool) (ic : Value) : Array Value := #[.nilIface, v, .bool false, .pointer (some ⟨gc, 0, none⟩), .int .i64 off, .int .i64 pl, .bool pa, ic]

/-- What flushChild leaves, where all goes well: the child's bytes are the builder's. -/
def FlPost (base g : Nat) (xs : List Int) (off pl : Int) (pa : Bool) (ic : Value) (S : List Nat) (w : World) (e : Ending) (w' : World) : Prop :=
  e = .returned (.tuple #[]) ∧ ∃ rb, Bld w' base g xs off pl pa ic (some rb) ∧ Fr S w w' ∧ (rb ∈ S ∨ w.heap.size ≤ rb)

/-- A byte of the row is stored. -/
theorem OwnB.stored {w : World} {base e r n c : Nat} {xs : List Int} (h : OwnB w base e (.slice (some ⟨r, 0, none⟩) n c) xs) (hn : xs.length = n) (j : Nat) (x : Int) :
    OwnB (w.setCell ⟨r, j, none⟩ (.int .u8 x)) base e (.slice (some ⟨r, 0, none⟩) n c) (xs.set j x) := by
  subst hn
  unfold OwnB at h ⊢
  have := (World.ownsRow.stored h j (.int .u8 x)).1
  rw [List.length_set, List.map_set]
  exact this
theorem OwnB.at_ {w : World} {base e r n c : Nat} {xs : List Int} (h : OwnB w base e (.slice (some ⟨r, 0, none⟩) n c) xs) (hn : xs.length = n) {j : Nat} (hj : j < n) :
    w.cell? ⟨r, j, none⟩ = some (.int .u8 (xs.getD j 0)) ∧ w.frozen? ⟨r, j, none⟩ = false := by
  subst hn
  unfold OwnB at h
  refine ⟨?_, World.ownsRow.frozenAt h j⟩
  rw [World.ownsRow.cellAt h j (by omega), List.getElem?_map, List.getD_eq_getElem?_getD, List.getElem?_eq_getElem hj]
  rfl
theorem OwnB.row {w : World} {base e r : Nat} {v : Value} {xs : List Int} (h : OwnB w base e v xs) (hr : v.ownBlock = some r) : ∃ c, v = .slice (some ⟨r, 0, none⟩) xs.length c ∧ xs.length ≤ c ∧ c ≤ maxLen := by
  rcases h.2 with ⟨rfl, _⟩ | ⟨g, cap, cur, rfl, _, _, h1, h2, _⟩
  · simp [Value.ownBlock] at hr
  · have : g = r := by simpa [Value.ownBlock] using hr
    subst this
    exact ⟨cap, rfl, h1, h2⟩

/-- 's[k:]' of a row, not at its capacity's end. -/
theorem sl_at (r n c : Nat) (k : Int) (m : Nat) (hk : k = m) (hn : m ≤ n) (hc : m < c) (w : World) :
    (Instr.sliceAt 22 (.slice (some ⟨r, 0, none⟩) n c) (some (.int .i64 k)) none none).run Try.prog w = .ok (.slice (some ⟨r, m, none⟩) (n - m) (c - m)) w := by
  rw [sl_from (some ⟨r, 0, none⟩) n c k m hk hn w]
  unfold cutA
  rw [if_neg (by omega)]
  simp [add_plain']

theorem Fr.setRow {S : List Nat} {w w' : World} (h : Fr S w w') {r : Nat} (hr : r ∈ S ∨ w.heap.size ≤ r) (cs : Array Value) : Fr S w (w'.setRow r cs) :=
  ⟨h.os, h.tape, h.output, by simpa [World.setRow] using h.size, fun k hk hn => (setRow_other w' r k cs (fun e => by subst e; rcases hr with h1 | h1; exact hn h1; omega)).trans (h.block k hk hn)⟩
theorem OwnB.cur {w : World} {base e r n c : Nat} {xs : List Int} (h : OwnB w base e (.slice (some ⟨r, 0, none⟩) n c) xs) (hn : xs.length = n) :
    ∃ cur : List Value, w.heap[r]? = some (.cells cur.toArray e (0, 0)) ∧ cur.length = c ∧ cur.take n = xs.map (Value.int .u8) ∧ base ≤ r ∧ n ≤ c ∧ c ≤ maxLen := by
  subst hn
  rcases h.2 with ⟨h', _⟩ | ⟨g, cap, cur, h', hb, hg, h1, h2, h3, h4⟩
  · simp at h'
  · simp only [Value.slice.injEq, Option.some.injEq, Addr.mk.injEq, and_true, true_and] at h'
    obtain ⟨rfl, rfl⟩ := h'
    exact ⟨cur.toList, by simpa using hg, by simpa using h3, by simpa using h4, hb, h1, h2⟩
theorem OwnB.setRow {w : World} {base e r n c off : Nat} {xs ys : List Int} {cur : List Value} (hb : base ≤ r) (hnc : n ≤ c) (hm : c ≤ maxLen) (hn : xs.length = n)
    (hcur : w.heap[r]? = some (.cells cur.toArray e (0, 0))) (hcl : cur.length = c) (hct : cur.take n = xs.map (Value.int .u8)) (hoff : off + ys.length = n) :
    OwnB (w.setRow r (cur.take off ++ (ys.map (Value.int .u8) ++ cur.drop (off + (ys.map (Value.int .u8)).length))).toArray) base e (.slice (some ⟨r, 0, none⟩) n c) (xs.take off ++ ys) := by
  have hl : (xs.take off ++ ys).length = n := by simp; omega
  unfold OwnB
  rw [hl]
  refine ⟨by simp; omega, .inr ⟨r, c, _, rfl, hb, setRow_heap w r _ _ e _ hcur, hnc, hm, by simp; omega, ?_⟩⟩
  have e1 : cur.take off = (xs.take off).map (Value.int .u8) := by
    rw [List.map_take, ← hct, List.take_take, Nat.min_eq_left (by omega)]
  simp only [Nat.mul_one]
  rw [List.length_map, e1, ← List.append_assoc, ← List.map_append]
  rw [List.take_append_of_le_length (by simp; omega), List.take_of_length_le (by simp; omega)]

/-- The row while the length is written: its last bytes stand. -/
def Mid (pre body Z : List Int) (k j L : Nat) : List Int := pre ++ (Z.take (k - j) ++ (bigB j L ++ body))
theorem mid_zero (pre body : List Int) {Z : List Int} {k : Nat} (L : Nat) (hZ : Z.length = k) : Mid pre body Z k 0 L = pre ++ (Z ++ body) := by unfold Mid; rw [Nat.sub_zero, List.take_of_length_le (by omega)]; rfl
theorem mid_end (pre body Z : List Int) (k L : Nat) : Mid pre body Z k k L = pre ++ (bigB k L ++ body) := by unfold Mid; rw [Nat.sub_self]; rfl
theorem mid_len (pre body : List Int) {Z : List Int} {k j : Nat} (L : Nat) (hZ : Z.length = k) (h : j ≤ k) : (Mid pre body Z k j L).length = pre.length + (k + body.length) := by
  unfold Mid
  simp only [List.length_append, List.length_take, bigB_len]
  omega
theorem mid_set (pre body : List Int) {Z : List Int} {k j : Nat} (L : Nat) (hZ : Z.length = k) (h : j < k) : (Mid pre body Z k j L).set (pre.length + (k - 1 - j)) (((L / 256 ^ j : Nat) : Int) % 256) = Mid pre body Z k (j + 1) L := by
  unfold Mid
  rw [List.set_append_right _ _ (by omega), show pre.length + (k - 1 - j) - pre.length = k - 1 - j by omega]
  obtain ⟨m, hm⟩ : ∃ m, k - j = m + 1 := ⟨k - j - 1, by omega⟩
  have hml : m < Z.length := by omega
  rw [hm, show k - 1 - j = m by omega, show k - (j + 1) = m by omega, List.take_succ_eq_append_getElem hml, List.append_assoc, List.set_append_right _ _ (by simp; omega)]
  simp only [List.length_take, List.cons_append, List.nil_append]
  rw [show m - min m Z.length = 0 by omega, List.set_cons_zero, bigB_cons]
  simp

set_option maxRecDepth 100000 in
set_option maxHeartbeats 1600000 in
theorem flush_plain (base g gc rc k L o : Nat) (pre body : List Int) (off pl : Int) (pa : Bool) (ic icc vp : Value) (w : World)
    (hg : Blk w g 74 (pCs vp gc off pl pa ic)) (hc : Bld w base gc (pre ++ (List.replicate k 0 ++ body)) o k false icc (some rc)) (hgc : g ≠ gc)
    (hpre : pre.length = o) (hbody : body.length = L) (hk0 : 0 < k) (hk : k ≤ 4) (hl : o + (k + L) ≤ 4194304000) (hL : L / 256 ^ k = 0) :
    Calls Try.prog 147 #[.pointer (some ⟨g, 0, none⟩)] w (FlPost base g (pre ++ (bigB k L ++ body)) off pl pa ic [g, gc, rc] w) := by
  obtain ⟨v, hc, hown, hrc⟩ := hc
  obtain ⟨c, rfl, hc1, hc2⟩ := hown.row hrc
  obtain ⟨N, hN⟩ : ∃ N, N = o + (k + L) := ⟨_, rfl⟩
  have hlen : (pre ++ (List.replicate k 0 ++ body)).length = N := by simp; omega
  rw [hlen] at hc hown hc1
  have hgr : g ≠ rc := fun e => by
    have := hown.ne_blk hg (by decide)
    simp [Value.ownBlock, e] at this
  have hcr : gc ≠ rc := fun e => by
    have := hown.ne_blk hc (by decide)
    simp [Value.ownBlock, e] at this
  have a3 : w.cell? ⟨g, 3, none⟩ = some (.pointer (some ⟨gc, 0, none⟩)) := hg.cell 3
  have af3 := hg.frozen 3
  have b0 : w.cell? ⟨gc, 0, none⟩ = some .nilIface := hc.cell 0
  have b1 : w.cell? ⟨gc, 1, none⟩ = some (.slice (some ⟨rc, 0, none⟩) N c) := hc.cell 1
  have b3 : w.cell? ⟨gc, 3, none⟩ = some (.pointer none) := hc.cell 3
  have b4 : w.cell? ⟨gc, 4, none⟩ = some (.int .i64 o) := hc.cell 4
  have b5 : w.cell? ⟨gc, 5, none⟩ = some (.int .i64 k) := hc.cell 5
  have b6 : w.cell? ⟨gc, 6, none⟩ = some (.bool false) := hc.cell 6
  have e1 : IntKind.i64.wrap ((N : Int) - (k : Int)) = (N : Int) - (k : Int) := IntWalk.i64_in _ (by omega)
  have e2 : IntKind.i64.wrap ((N : Int) - (k : Int) - (o : Int)) = (L : Int) := by rw [IntWalk.i64_in _ (by omega)]; omega
  have Hg := Lib.hid hg
  have Hc := Lib.hid hc
  have Ho := Lib.hid hown
  have HN := Lib.hid hN
  have Hp := Lib.hid hpre
  have Hb := Lib.hid hbody
  have HL := Lib.hid hL
  have FN := Lib.hid (flush_none gc w b3)
  clear hg hc hown hN hpre hbody hL hlen hrc b3
  obtain ⟨RES, hRES⟩ : ∃ R, R = pre ++ (bigB k L ++ body) := ⟨_, rfl⟩
  rw [← hRES]
  have HE := Lib.hid hRES
  clear hRES
  go_enter Try.func147, Try.ntmps147
  go_wp2_with fail
  refine FN.out.mono ?_
  rintro e w' ⟨rfl, rfl⟩
  go_wp2_with fail
  go_quiet (fail)
  go_wp2_with fail
  have G1 : Blk ((w.setCell ⟨g, 3, none⟩ (.pointer none)).drewN nq) g 74 (bCs vp off pl pa ic) := (Hg.out.set_ 3 _).drewN nq
  have D1 : Blk ((w.setCell ⟨g, 3, none⟩ (.pointer none)).drewN nq) gc 74 (bCs (.slice (some ⟨rc, 0, none⟩) N c) o k false icc) := (Hc.out.far (p := ⟨g, 3, none⟩) (fun e => hgc e.symm) _).drewN nq
  have F1 : Fr [g] w ((w.setCell ⟨g, 3, none⟩ (.pointer none)).drewN nq) := ((Fr.refl [g] w).set_ (.inl (by simp)) _).drewN nq
  have O1 : OwnB ((w.setCell ⟨g, 3, none⟩ (.pointer none)).drewN nq) base 5 (.slice (some ⟨rc, 0, none⟩) N c) (Mid pre body (List.replicate k 0) k 0 L) := by
    rw [mid_zero pre body L (by simp)]
    exact Ho.out.fr F1 (by simp [Value.ownBlock]; exact fun e => hgr e.symm)
  generalize (w.setCell ⟨g, 3, none⟩ (.pointer none)).drewN nq = w1 at *
  have F1' := Lib.hid (F1.mono (S' := [g, gc, rc]) (by simp))
  have G1' := Lib.hid G1
  have D1' := Lib.hid D1
  have O1' := Lib.hid O1
  have HZ := Lib.hid (show (List.replicate k (0 : Int)).length = k by simp)
  generalize List.replicate k (0 : Int) = Z at *
  have hLq : L ≤ 4194304000 := by omega
  obtain ⟨S0, hS0⟩ : ∃ S0, S0 = [g, gc, rc] := ⟨_, rfl⟩
  have hS0r : rc ∈ S0 ∨ w.heap.size ≤ rc := .inl (by rw [hS0]; simp)
  have HS0g := Lib.hid (show g ∈ S0 by rw [hS0]; simp)
  have HFin := Lib.hid (show ∀ w', Fr S0 w w' → Fr [g, gc, rc] w w' by rw [hS0]; exact fun _ h => h)
  have HRc := Lib.hid (show rc ∈ [g, gc, rc] ∨ w.heap.size ≤ rc from .inl (by simp))
  rw [← hS0] at F1'
  clear hS0
  obtain ⟨Lq, hLq'⟩ : ∃ Lq, Lq = L := ⟨_, rfl⟩
  rw [← hLq'] at HL HE O1' hLq ⊢
  clear hLq'
  clear G1 D1 F1 O1 e1 e2 a3 af3 b0 b1 b4 b5 b6
  go_loopw [8, 9] (fun l i wr => ∃ j : Nat, j ≤ k ∧ i = .int .i64 ((k : Int) - 1 - j) ∧ l = .int .i64 ((Lq / 256 ^ j : Nat) : Int) ∧ Blk wr g 74 (bCs vp off pl pa ic) ∧ Blk wr gc 74 (bCs (.slice (some ⟨rc, 0, none⟩) N c) o k false icc) ∧
    OwnB wr base 5 (.slice (some ⟨rc, 0, none⟩) N c) (Mid pre body Z k j Lq) ∧ Fr S0 w wr) (fun _ i _ => (intOf i + 1).toNat)
  case atStart => exact ⟨0, Nat.zero_le _, by go_num, by simp, G1'.out, D1'.out, O1'.out, F1'.out⟩
  case round =>
    obtain ⟨j, hj, rfl, rfl, hg, hc, hown, hfr⟩ := hrel
    have hNle : N ≤ 4194304000 := by have := HN.out; omega
    have b1 : wr.cell? ⟨gc, 1, none⟩ = some (.slice (some ⟨rc, 0, none⟩) N c) := hc.cell 1
    have b4 : wr.cell? ⟨gc, 4, none⟩ = some (.int .i64 o) := hc.cell 4
    have Hg1 := Lib.hid hg
    have Hc1 := Lib.hid hc
    have Ho1 := Lib.hid hown
    have Hf1 := Lib.hid hfr
    by_cases hlt : j < k
    · obtain ⟨i, hi⟩ : ∃ i, i = k - 1 - j := ⟨_, rfl⟩
      have hi' : (k : Int) - 1 - j = (i : Int) := by omega
      have hiN : o + i < N := by have := HN.out; omega
      obtain ⟨x0, x1⟩ := hown.at_ (by rw [mid_len pre body Lq HZ.out hj, Hp.out, Hb.out]; have := HN.out; omega) hiN
      have M := Lib.hid (mid_set pre body Lq HZ.out hlt)
      rw [Hp.out, ← hi] at M
      have Hi := Lib.hid hi
      have Q := Lib.hid (show Lq / 256 ^ (j + 1) = Lq / 256 ^ j / 256 by rw [Nat.pow_succ, Nat.div_div_eq_div_mul])
      have hq : Lq / 256 ^ j ≤ 4194304000 := Nat.le_trans (Nat.div_le_self _ _) hLq
      have i1 : (o : Int) + (i : Int) < (N : Int) := by omega
      have i2 : IntKind.i64.wrap ((o : Int) + (i : Int)) = (o : Int) + (i : Int) := IntWalk.i64_in _ (by omega)
      have i3 : (0 : Int) ≤ (o : Int) + (i : Int) := by omega
      have i4 : ((o : Int) + (i : Int)).toNat = o + i := by omega
      rw [hi']
      generalize Lq / 256 ^ j = q at *
      generalize (Mid pre body Z k j Lq).getD (o + i) 0 = y at *
      clear hi hi' hg hc hown hfr
      go_wp2_with fail
      refine region_tail 13 (by kernel_rfl) (by kernel_rfl) ?_
      simp only [List.take_succ_cons, List.take_zero, List.drop_succ_cons, List.drop_zero]
      repeat still_step
      refine wpStill_nil ?_
      go_wp2_with fail
      go_roundw
      case rel =>
        have hN := HN.out
        have hi := Hi.out
        refine ⟨j + 1, by omega, by congr 1; omega, by rw [Q.out]; rfl, (Hg1.out.far (p := ⟨rc, o + i, none⟩) hgr _).drew, (Hc1.out.far (p := ⟨rc, o + i, none⟩) hcr _).drew, ?_, (Hf1.out.set_ (p := ⟨rc, o + i, none⟩) hS0r _).drew⟩
        rw [← M.out]
        exact Ho1.out.stored (by rw [mid_len pre body Lq HZ.out hj, Hp.out, Hb.out]; omega) _ _
      case measure => first | (simp [intOf]; done) | (simp [intOf]; omega)
    · have hjk : j = k := by omega
      subst hjk
      rw [HL.out]
      clear hg hc hown hfr
      have hi' : ¬ (0 : Int) ≤ (j : Int) - 1 - j := by omega
      have a2 : wr.cell? ⟨g, 2, none⟩ = some (.bool false) := Hg1.out.cell 2
      have a1 : wr.cell? ⟨g, 1, none⟩ = some vp := Hg1.out.cell 1
      have af1 := Hg1.out.frozen 1
      go_wp2_with fail
      go_quiet (fail)
      go_wp2_with fail
      go_end0
      have E := mid_end pre body Z j Lq
      rw [HE.out, ← E]
      refine ⟨rfl, rc, ⟨_, (Hg1.out.drewN nq).set_ 1 _, ?_, rfl⟩, ?_, ?_⟩
      · have hlen := mid_len pre body Lq HZ.out (Nat.le_refl j)
        have hN : N = (Mid pre body Z j j Lq).length := by rw [hlen, Hp.out, Hb.out]; exact HN.out
        rw [← hN] at *
        exact Ho1.out.fr (S := [g]) (((Fr.refl [g] wr).drewN nq).set_ (p := ⟨g, 1, none⟩) (.inl (by simp)) _) (by simp [Value.ownBlock]; exact fun e => hgr e.symm)
      · exact HFin.out _ ((Hf1.out.drewN nq).set_ (p := ⟨g, 1, none⟩) (.inl HS0g.out) _)
      · exact HRc.out
end Go.Proofs.Ytndknmchhhljcaa
