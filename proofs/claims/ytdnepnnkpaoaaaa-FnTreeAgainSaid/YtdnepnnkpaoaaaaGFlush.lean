/- The contract of (*Builder).flushChild, whatever the child: one that holds an error, one of a plain length, one of ASN.1; the child's own child is flushed first, by a contract of its own. -/
import Derived.Test.YtdnepnnkpaoaaaaGNum
import Derived.IntWalk
import Derived.Deep.Cut
import Derived.Deep.CutRange
import Derived.Lib.Builder
namespace Go.Proofs.Ytdnepnnkpaoaaaa
open Go.RowKit
set_option linter.unusedVariables false

/-- errors.New: an error. -/
theorem new_err (s) (w : World) : Calls Try.prog 54 #[.string s] w fun e w' => ∃ u, e = .returned (.iface 123 u) ∧ Fr [] w w' := by
  go_enter Try.func54, Try.ntmps54
  go_wp2
  go_ret
  exact ⟨_, rfl, (Fr.refl [] w).alloc _⟩

set_option maxRecDepth 100000 in
theorem flush_none (g : Nat) (w : World) (c3 : w.cell? ⟨g, 3, none⟩ = some (.pointer none)) :
    Calls Try.prog 93 #[.pointer (some ⟨g, 0, none⟩)] w fun e w' => e = .returned (.tuple #[]) ∧ w = w' := by
  go_enter Try.func93, Try.ntmps93
  go_wp2_with fail
  refine bodyPost_ret (results_none rfl _ _ _) rfl ?_
  exact ⟨rfl, rfl⟩

/-- The cells of a builder without a child, whatever its error. -/
abbrev eCs (ev : Value) (fx : Bool) (v : Value) (off pl : Int) (pa : Bool) (ic : Value) : Array Value := #[ev, v, .bool fx, .pointer none, .int .i64 off, .int .i64 pl, .bool pa, ic]
/-- The cells of a builder with a child, whatever its error. -/
abbrev pCs (ev : Value) (fx : Bool) (v : Value) (gc : Nat) (off pl : Int) (pa : Bool) (ic : Value) : Array Value := #[ev, v, .bool fx, .pointer (some ⟨gc, 0, none⟩), .int .i64 off, .int .i64 pl, .bool pa, ic]
/-- A builder as Bld says, whatever its error. -/
def BldE (K : Kd) (ev : Value) (w : World) (base g : Nat) (xs : List Int) (off pl : Int) (pa : Bool) (ic : Value) (rb : Option Nat) : Prop :=
  ∃ v, Blk w g 65 (eCs ev K.fix.isSome v off pl pa ic) ∧ OwnB w base 5 v xs ∧ v.ownBlock = rb ∧ ∀ r, K.fix = some r → ∃ c, v = .slice (some ⟨r, 0, none⟩) xs.length c ∧ c = K.lim
/-- A builder that holds an error, and has no child. -/
def Bad (w : World) (g : Nat) : Prop := ∃ (t : TypeId) (u v1 v2 v4 v5 v6 v7 : Value), Blk w g 65 #[.iface t u, v1, v2, .pointer none, v4, v5, v6, v7]
/-- How many bytes are told behind the first one of a length. -/
def extraB (n : Nat) : Nat := if n < 128 then 0 else lenB n
/-- A length as DER has it. -/
def derLen (n : Nat) : List Int := if n < 128 then [(n : Int)] else (128 + (lenB n : Int)) :: bigB (lenB n) n
theorem derLen_len (n : Nat) : (derLen n).length = 1 + extraB n := by
  unfold derLen extraB
  split
  · rfl
  · rw [List.length_cons, bigB_len]; omega
theorem derWrap_eq (t : Int) (c : List Int) : derWrap t c = t :: (derLen c.length ++ c) := by
  unfold derWrap derHdr derLen
  split <;> rfl
/-- What a flush makes of a child's bytes: those ahead of it, its length, its own ones; none where the length does not fit. -/
def flushed (pa : Bool) (k : Nat) (pre body : List Int) : Option (List Int) :=
  if pa then some (pre ++ (derLen body.length ++ body)) else if body.length / 256 ^ k = 0 then some (pre ++ (bigB k body.length ++ body)) else none
/-- What a flush leaves of the builder. -/
def FlRes (K : Kd) (ev : Value) (base g : Nat) (off pl : Int) (pb : Bool) (ic : Value) (rc : Nat) (w1 w' : World) : Option (List Int) → Prop
  | some xs => ∃ rb, BldE K ev w' base g xs off pl pb ic (some rb) ∧ (rb = rc ∨ w1.heap.size ≤ rb)
  | none => Bad w' g
def FlPost (K : Kd) (ev : Value) (base g gc k : Nat) (off pl : Int) (pa pb : Bool) (ic : Value) (JB : World → Prop) (J : World → List Int → List Int → List Int → Nat → Prop) (e : Ending) (w' : World) : Prop :=
  e = .returned (.tuple #[]) ∧ ∃ w1, (JB w1 ∧ Bad w' g ∧ Fr [g] w1 w') ∨ ∃ pre Z body rc, J w1 pre Z body rc ∧ Fr [g, gc, rc] w1 w' ∧ FlRes K ev base g off pl pb ic rc w1 w' (flushed pa k pre body)

/-- A byte of the row is stored. -/
theorem OwnB.stored {w : World} {base e r n c : Nat} {xs : List Int} (h : OwnB w base e (.slice (some ⟨r, 0, none⟩) n c) xs) (hn : xs.length = n) (j : Nat) (x : Int) :
    OwnB (w.setCell ⟨r, j, none⟩ (.int .u8 x)) base e (.slice (some ⟨r, 0, none⟩) n c) (xs.set j x) := by
  subst hn
  unfold OwnB at h ⊢
  have := (World.ownsRow.stored h j (.int .u8 x)).1
  rw [List.length_set, List.map_set]
  exact this
theorem OwnB.at_ {w : World} {base e r n c : Nat} {xs : List Int} (h : OwnB w base e (.slice (some ⟨r, 0, none⟩) n c) xs) (hn : xs.length = n) {j : Nat} (hj : j < n) :
    w.cell? ⟨r, j, none⟩ = some (.int .u8 (xs.getD j 0)) ∧ w.frozen? ⟨r, j, none⟩ = false := by
  subst hn
  unfold OwnB at h
  refine ⟨?_, World.ownsRow.frozenAt h j⟩
  rw [World.ownsRow.cellAt h j (by omega), List.getElem?_map, List.getD_eq_getElem?_getD, List.getElem?_eq_getElem hj]
  rfl
theorem OwnB.row {w : World} {base e r : Nat} {v : Value} {xs : List Int} (h : OwnB w base e v xs) (hr : v.ownBlock = some r) : ∃ c, v = .slice (some ⟨r, 0, none⟩) xs.length c ∧ xs.length ≤ c ∧ c ≤ maxLen := by
  rcases h.2 with ⟨rfl, _⟩ | ⟨g, cap, cur, rfl, _, _, h1, h2, _⟩
  · simp [Value.ownBlock] at hr
  · have : g = r := by simpa [Value.ownBlock] using hr
    subst this
    exact ⟨cap, rfl, h1, h2⟩

/-- 's[k:]' of a row, not at its capacity's end. -/
theorem sl_at (r n c : Nat) (k : Int) (m : Nat) (hk : k = m) (hn : m ≤ n) (hc : m < c) (w : World) :
    (Instr.sliceAt 22 (.slice (some ⟨r, 0, none⟩) n c) (some (.int .i64 k)) none none).run Try.prog w = .ok (.slice (some ⟨r, m, none⟩) (n - m) (c - m)) w := by
  rw [sl_from (some ⟨r, 0, none⟩) n c k m hk hn w]
  unfold cutA
  rw [if_neg (by omega)]
  simp [add_plain']

theorem Fr.setRow {S : List Nat} {w w' : World} (h : Fr S w w') {r : Nat} (hr : r ∈ S ∨ w.heap.size ≤ r) (cs : Array Value) : Fr S w (w'.setRow r cs) :=
  ⟨h.os, h.tape, h.output, by simpa [World.setRow] using h.size, fun k hk hn => (setRow_other w' r k cs (fun e => by subst e; rcases hr with h1 | h1; exact hn h1; omega)).trans (h.block k hk hn)⟩
theorem OwnB.cur {w : World} {base e r n c : Nat} {xs : List Int} (h : OwnB w base e (.slice (some ⟨r, 0, none⟩) n c) xs) (hn : xs.length = n) :
    ∃ cur : List Value, w.heap[r]? = some (.cells cur.toArray e (0, 0)) ∧ cur.length = c ∧ cur.take n = xs.map (Value.int .u8) ∧ base ≤ r ∧ n ≤ c ∧ c ≤ maxLen := by
  subst hn
  rcases h.2 with ⟨h', _⟩ | ⟨g, cap, cur, h', hb, hg, h1, h2, h3, h4⟩
  · simp at h'
  · simp only [Value.slice.injEq, Option.some.injEq, Addr.mk.injEq, and_true, true_and] at h'
    obtain ⟨rfl, rfl⟩ := h'
    exact ⟨cur.toList, by simpa using hg, by simpa using h3, by simpa using h4, hb, h1, h2⟩
theorem OwnB.setRow {w : World} {base e r n c off : Nat} {xs ys : List Int} {cur : List Value} (hb : base ≤ r) (hnc : n ≤ c) (hm : c ≤ maxLen) (hn : xs.length = n)
    (hcur : w.heap[r]? = some (.cells cur.toArray e (0, 0))) (hcl : cur.length = c) (hct : cur.take n = xs.map (Value.int .u8)) (hoff : off + ys.length = n) :
    OwnB (w.setRow r (cur.take off ++ (ys.map (Value.int .u8) ++ cur.drop (off + (ys.map (Value.int .u8)).length))).toArray) base e (.slice (some ⟨r, 0, none⟩) n c) (xs.take off ++ ys) := by
  have hl : (xs.take off ++ ys).length = n := by simp; omega
  unfold OwnB
  rw [hl]
  refine ⟨by simp; omega, .inr ⟨r, c, _, rfl, hb, setRow_heap w r _ _ e _ hcur, hnc, hm, by simp; omega, ?_⟩⟩
  have e1 : cur.take off = (xs.take off).map (Value.int .u8) := by
    rw [List.map_take, ← hct, List.take_take, Nat.min_eq_left (by omega)]
  simp only [Nat.mul_one]
  rw [List.length_map, e1, ← List.append_assoc, ← List.map_append]
  rw [List.take_append_of_le_length (by simp; omega), List.take_of_length_le (by simp; omega)]

/-- The row while the length is written: its last bytes stand. -/
def Mid (pre body Z : List Int) (k j L : Nat) : List Int := pre ++ (Z.take (k - j) ++ (bigB j L ++ body))
theorem mid_zero (pre body : List Int) {Z : List Int} {k : Nat} (L : Nat) (hZ : Z.length = k) : Mid pre body Z k 0 L = pre ++ (Z ++ body) := by unfold Mid; rw [Nat.sub_zero, List.take_of_length_le (by omega)]; rfl
theorem mid_end (pre body Z : List Int) (k L : Nat) : Mid pre body Z k k L = pre ++ (bigB k L ++ body) := by unfold Mid; rw [Nat.sub_self]; rfl
theorem mid_len (pre body : List Int) {Z : List Int} {k j : Nat} (L : Nat) (hZ : Z.length = k) (h : j ≤ k) : (Mid pre body Z k j L).length = pre.length + (k + body.length) := by
  unfold Mid
  simp only [List.length_append, List.length_take, bigB_len]
  omega
theorem mid_set (pre body : List Int) {Z : List Int} {k j : Nat} (L : Nat) (hZ : Z.length = k) (h : j < k) : (Mid pre body Z k j L).set (pre.length + (k - 1 - j)) (((L / 256 ^ j : Nat) : Int) % 256) = Mid pre body Z k (j + 1) L := by
  unfold Mid
  rw [List.set_append_right _ _ (by omega), show pre.length + (k - 1 - j) - pre.length = k - 1 - j by omega]
  obtain ⟨m, hm⟩ : ∃ m, k - j = m + 1 := ⟨k - j - 1, by omega⟩
  have hml : m < Z.length := by omega
  rw [hm, show k - 1 - j = m by omega, show k - (j + 1) = m by omega, List.take_succ_eq_append_getElem hml, List.append_assoc, List.set_append_right _ _ (by simp; omega)]
  simp only [List.length_take, List.cons_append, List.nil_append]
  rw [show m - min m Z.length = 0 by omega, List.set_cons_zero, bigB_cons]
  simp


theorem fixes {K : Kd} {rc N M N' M' c : Nat} (h : ∀ r, K.fix = some r → ∃ c', Value.slice (some ⟨rc, 0, none⟩) N c = .slice (some ⟨r, 0, none⟩) M c' ∧ c' = K.lim) (e : N' = M') :
    ∀ r, K.fix = some r → ∃ c', Value.slice (some ⟨rc, 0, none⟩) N' c = .slice (some ⟨r, 0, none⟩) M' c' ∧ c' = K.lim := fun r hr => by
  obtain ⟨c', h1, h2⟩ := h r hr
  subst e
  injection h1 with h3 h4 h5
  exact ⟨c', by rw [h3, h5], h2⟩

/-- The state at the head of the loop that writes the length. -/
def FlMid (K : Kd) (ev : Value) (base g gc : Nat) (off pl : Int) (pa pb : Bool) (vp ic icc : Value) (rc : Nat) (w1 : World) (body : List Int) (RES : Option (List Int)) (s2 s3 : Value) (wc : World) : Prop :=
  s2 = .pointer (some ⟨gc, 0, none⟩) ∧ ∃ (L2 k2 o2 rc2 : Nat) (pre2 Z2 : List Int), s3 = .int .i64 (L2 : Int) ∧ Blk wc g 65 (eCs ev K.fix.isSome vp off pl pb ic) ∧ Bld K wc base gc (pre2 ++ (Z2 ++ body)) o2 k2 pa icc (some rc2) ∧
    pre2.length = o2 ∧ Z2.length = k2 ∧ k2 ≤ 4 ∧ L2 ≤ 4194304000 ∧ 1 ≤ o2 + k2 ∧ o2 + (k2 + body.length) ≤ 4194304000 ∧ Fr [g, gc, rc] w1 wc ∧ (rc2 = rc ∨ w1.heap.size ≤ rc2) ∧
    RES = if L2 / 256 ^ k2 = 0 then some (pre2 ++ (bigB k2 (L2 : Int) ++ body)) else none

set_option maxRecDepth 100000 in
set_option maxHeartbeats 12800000 in
theorem flush_gen (K : Kd) (base g gc k o : Nat) (off pl : Int) (pa pb : Bool) (ev vp ic : Value) (JB : World → Prop) (J : World → List Int → List Int → List Int → Nat → Prop) (w : World)
    (hgc : g ≠ gc) (hk0 : 0 < k) (hk : k ≤ 4) (hpa : pa = true → k = 1) (c3 : w.cell? ⟨g, 3, none⟩ = some (.pointer (some ⟨gc, 0, none⟩)))
    (hin : Calls Try.prog 93 #[.pointer (some ⟨gc, 0, none⟩)] w fun e w1 => e = .returned (.tuple #[]) ∧ (JB w1 ∨ ∃ pre Z body rc, J w1 pre Z body rc))
    (hJB : ∀ w1, JB w1 → Blk w1 g 65 (pCs ev K.fix.isSome vp gc off pl pb ic) ∧ Bad w1 gc)
    (hJ : ∀ w1 pre Z body rc, J w1 pre Z body rc → Blk w1 g 65 (pCs ev K.fix.isSome vp gc off pl pb ic) ∧ (∃ icc, Bld K w1 base gc (pre ++ (Z ++ body)) o k pa icc (some rc)) ∧ pre.length = o ∧ Z.length = k ∧
      o + (k + body.length) ≤ K.lim ∧ (pa = true → o + (1 + extraB body.length + body.length) ≤ K.lim) ∧ body.length ≤ 16777215 ∧ base ≤ w1.heap.size ∧ ∀ r, K.fix = some r → ∃ n c, 0 < n ∧ vp = .slice (some ⟨r, 0, none⟩) n c) :
    Calls Try.prog 93 #[.pointer (some ⟨g, 0, none⟩)] w (FlPost K ev base g gc k off pl pa pb ic JB J) := by
  have hmk1 : ∀ W, (Instr.makeSlice 22 (.int .i64 1) (.int .i64 1)).run Try.prog W = .ok (.slice (some ⟨W.heap.size, 0, none⟩) 1 1) (W.alloc (.cells #[.int .u8 0] 5)) := fun _ => by kernel_rfl
  have hmk2 : ∀ W, (Instr.makeSlice 22 (.int .i64 2) (.int .i64 2)).run Try.prog W = .ok (.slice (some ⟨W.heap.size, 0, none⟩) 2 2) (W.alloc (.cells #[.int .u8 0, .int .u8 0] 5)) := fun _ => by kernel_rfl
  have hmk3 : ∀ W, (Instr.makeSlice 22 (.int .i64 3) (.int .i64 3)).run Try.prog W = .ok (.slice (some ⟨W.heap.size, 0, none⟩) 3 3) (W.alloc (.cells #[.int .u8 0, .int .u8 0, .int .u8 0] 5)) := fun _ => by kernel_rfl
  have Hin := Lib.hid hin
  have HJB := Lib.hid hJB
  have HJ := Lib.hid hJ
  have Hpa := Lib.hid hpa
  obtain ⟨Q, hQ⟩ : ∃ Q, Q = FlPost K ev base g gc k off pl pa pb ic JB J := ⟨_, rfl⟩
  rw [← hQ]
  have HQ := Lib.hid hQ
  have HK := Lib.hid K.ok
  clear hin hJB hJ hpa hQ
  go_enter Try.func93, Try.ntmps93
  go_wp2_with fail
  refine Hin.out.mono ?_
  rintro e w1 ⟨rfl, h⟩
  clear c3
  rcases h with h | ⟨pre, Z, body, rc, h⟩
  · obtain ⟨hg, t, u, v1, v2, v4, v5, v6, v7, hb⟩ := HJB.out w1 h
    have a0 : w1.cell? ⟨g, 0, none⟩ = some ev := hg.cell 0
    have a3 : w1.cell? ⟨g, 3, none⟩ = some (.pointer (some ⟨gc, 0, none⟩)) := hg.cell 3
    have af0 := hg.frozen 0
    have af3 := hg.frozen 3
    have b0 : w1.cell? ⟨gc, 0, none⟩ = some (.iface t u) := hb.cell 0
    have Hg := Lib.hid hg
    have H := Lib.hid h
    clear hg hb h
    go_wp2_with fail
    refine bodyPost_ret (results_none rfl _ _ _) rfl ?_
    rw [HQ.out]
    exact ⟨rfl, w1, .inl ⟨H.out, ⟨t, u, _, _, _, _, _, _, (Hg.out.set_ 3 _).set_ 0 _⟩, ((Fr.refl [g] w1).set_ (p := ⟨g, 3, none⟩) (.inl (by simp)) _).set_ (p := ⟨g, 0, none⟩) (.inl (by simp)) _⟩⟩
  · obtain ⟨hg, ⟨icc, hc⟩, hpre, hZ, hl, hlx, hL24, hbw, hvp⟩ := HJ.out w1 pre Z body rc h
    obtain ⟨v, hc, hown, hrc, hfix⟩ := hc
    obtain ⟨c, rfl, hc1, hc2⟩ := hown.row hrc
    obtain ⟨L, hbody⟩ : ∃ L, L = body.length := ⟨_, rfl⟩
    rw [← hbody] at hl hlx hL24
    obtain ⟨N, hN⟩ : ∃ N, N = o + (k + L) := ⟨_, rfl⟩
    have hlen : (pre ++ (Z ++ body)).length = N := by simp; omega
    rw [hlen] at hc hown hc1
    have hgr : g ≠ rc := fun e => by
      have := hown.ne_blk hg (by decide)
      simp [Value.ownBlock, e] at this
    have hcr : gc ≠ rc := fun e => by
      have := hown.ne_blk hc (by decide)
      simp [Value.ownBlock, e] at this
    have hNl : N ≤ 4194303000 := by have := HK.out; omega
    have a3 : w1.cell? ⟨g, 3, none⟩ = some (.pointer (some ⟨gc, 0, none⟩)) := hg.cell 3
    have af3 := hg.frozen 3
    have b0 : w1.cell? ⟨gc, 0, none⟩ = some .nilIface := hc.cell 0
    have b1 : w1.cell? ⟨gc, 1, none⟩ = some (.slice (some ⟨rc, 0, none⟩) N c) := hc.cell 1
    have b4 : w1.cell? ⟨gc, 4, none⟩ = some (.int .i64 o) := hc.cell 4
    have b5 : w1.cell? ⟨gc, 5, none⟩ = some (.int .i64 k) := hc.cell 5
    have b6 : w1.cell? ⟨gc, 6, none⟩ = some (.bool pa) := hc.cell 6
    have e1 : IntKind.i64.wrap ((N : Int) - (k : Int)) = (N : Int) - (k : Int) := IntWalk.i64_in _ (by omega)
    have e2 : IntKind.i64.wrap ((N : Int) - (k : Int) - (o : Int)) = (L : Int) := by rw [IntWalk.i64_in _ (by omega)]; omega
    have Hg := Lib.hid hg
    have Hc := Lib.hid hc
    have Ho := Lib.hid hown
    have HN := Lib.hid hN
    have Hp := Lib.hid hpre
    have HZ := Lib.hid hZ
    have Hb := Lib.hid hbody
    have Hl := Lib.hid hl
    have Hlx := Lib.hid hlx
    have Hvp := Lib.hid hvp
    have Hfix := Lib.hid hfix
    have Hrc := Lib.hid hrc
    have Hlen := Lib.hid hlen
    have H := Lib.hid h
    have Hgr := Lib.hid hgr
    have Hcr := Lib.hid hcr
    clear hg hc hown hN hpre hbody hlen hrc hZ hl hlx hvp hfix h
    obtain ⟨RES, hRES⟩ : ∃ R, R = flushed pa k pre body := ⟨_, rfl⟩
    have HE := Lib.hid hRES
    clear hRES
    go_wp2_with fail
    go_quiet (fail)
    go_upto_if 60 with (fail)
    obtain ⟨w2, hw2⟩ : ∃ w2, w2 = (w1.setCell ⟨g, 3, none⟩ (.pointer none)).drewN nq := ⟨_, rfl⟩
    have G2 : Blk w2 g 65 (eCs ev K.fix.isSome vp off pl pb ic) := by rw [hw2]; exact (Hg.out.set_ 3 _).drewN nq
    have D2 : Blk w2 gc 65 (bCs K.fix.isSome (.slice (some ⟨rc, 0, none⟩) N c) o k pa icc) := by rw [hw2]; exact (Hc.out.far (p := ⟨g, 3, none⟩) (fun e => hgc e.symm) _).drewN nq
    have F2 : Fr [g] w1 w2 := by rw [hw2]; exact ((Fr.refl [g] w1).set_ (.inl (by simp)) _).drewN nq
    have O2 : OwnB w2 base 5 (.slice (some ⟨rc, 0, none⟩) N c) (pre ++ (Z ++ body)) := Ho.out.fr F2 (by simp [Value.ownBlock]; exact fun e => hgr e.symm)
    rw [← hw2]
    clear hw2 a3 af3 b0 b1 b4 b5 b6 e1 e2
    have HG2 := Lib.hid G2
    have HD2 := Lib.hid D2
    have HF2 := Lib.hid F2
    have HO2 := Lib.hid O2
    clear G2 D2 F2 O2
    go_cut [2, 3] from 60 (fun s2 s3 wc => FlMid K ev base g gc off pl pa pb vp ic icc rc w1 body RES s2 s3 wc)
    case first =>
      cases pa
      · go_wp2_with fail
        go_meet
        case rel =>
          refine ⟨rfl, L, k, o, rc, pre, Z, rfl, HG2.out, ⟨_, HD2.out, ?_, rfl, ?_⟩, Hp.out, HZ.out, hk, by omega, by omega, by have := HN.out; rw [← Hb.out]; omega, HF2.out.mono (by simp), .inl rfl, ?_⟩
          · have := HO2.out
            exact this
          · exact fixes Hfix.out Hlen.out.symm
          · rw [HE.out, flushed, ← Hb.out]
            rfl
      · obtain rfl : k = 1 := Hpa.out rfl
        have hLc : L ≤ 127 ∨ (128 ≤ L ∧ L ≤ 255) ∨ (256 ≤ L ∧ L ≤ 65535) ∨ (65536 ≤ L ∧ L ≤ 16777215) := by omega
        rcases hLc with hL | ⟨hL0, hL⟩ | ⟨hL0, hL⟩ | ⟨hL0, hL⟩
        · have hoN : o < N := by have := HN.out; omega
          have HX := Lib.hid (show (pre ++ (Z ++ body)).set o (L : Int) = pre ++ ((L : Int) :: body) by
            have h1 := HZ.out
            match Z, h1 with
            | [z], _ => rw [List.set_append_right _ _ (by have := Hp.out; omega), Hp.out, Nat.sub_self, List.singleton_append, List.set_cons_zero])
          obtain ⟨x0, x1⟩ := HO2.out.at_ Hlen.out hoN
          have c1 : w2.cell? ⟨gc, 1, none⟩ = some (.slice (some ⟨rc, 0, none⟩) N c) := HD2.out.cell 1
          have c4 : w2.cell? ⟨gc, 4, none⟩ = some (.int .i64 o) := HD2.out.cell 4
          have c5 : w2.cell? ⟨gc, 5, none⟩ = some (.int .i64 1) := HD2.out.cell 5
          have O3 := Lib.hid (HO2.out.stored Hlen.out o (L : Int))
          rw [HX.out] at O3
          have G3 := Lib.hid (HG2.out.far (p := ⟨rc, o, none⟩) hgr (.int .u8 (L : Int)))
          have D3 := Lib.hid (HD2.out.far (p := ⟨rc, o, none⟩) hcr (.int .u8 (L : Int)))
          have F3 := Lib.hid ((HF2.out.mono (S' := [g, gc, rc]) (by simp)).set_ (p := ⟨rc, o, none⟩) (.inl (by simp)) (.int .u8 (L : Int)))
          have o1 : (o : Int) < (N : Int) := by omega
          generalize (pre ++ (Z ++ body)).getD o 0 = y at *
          go_wp2_with fail
          refine region_tail 10 (by kernel_rfl) (by kernel_rfl) ?_
          simp only [List.take_succ_cons, List.take_zero, List.drop_succ_cons, List.drop_zero]
          repeat still_step
          refine wpStill_nil ?_
          have d4 : (w2.setCell ⟨rc, o, none⟩ (.int .u8 (L : Int))).cell? ⟨gc, 4, none⟩ = some (.int .i64 o) := D3.out.cell 4
          have d5 : (w2.setCell ⟨rc, o, none⟩ (.int .u8 (L : Int))).cell? ⟨gc, 5, none⟩ = some (.int .i64 1) := D3.out.cell 5
          have df4 : (w2.setCell ⟨rc, o, none⟩ (.int .u8 (L : Int))).frozen? ⟨gc, 4, none⟩ = false := D3.out.frozen 4
          have df5 : (w2.setCell ⟨rc, o, none⟩ (.int .u8 (L : Int))).frozen? ⟨gc, 5, none⟩ = false := D3.out.frozen 5
          clear c1 c4 c5
          go_wp2_with fail
          go_meet
          case rel =>
            refine ⟨rfl, 0, 0, o + 1, rc, pre ++ [(L : Int)], [], rfl, ((G3.out.far (p := ⟨gc, 4, none⟩) hgc _).far (p := ⟨gc, 5, none⟩) hgc _).drew, ⟨_, ((D3.out.set_ 4 _).set_ 5 _).drew, ?_, rfl, ?_⟩, by simp [Hp.out], rfl, by omega, by omega, by omega, by have := HN.out; rw [← Hb.out]; omega, ((F3.out.set_ (p := ⟨gc, 4, none⟩) (.inl (by simp)) _).set_ (p := ⟨gc, 5, none⟩) (.inl (by simp)) _).drew, .inl rfl, ?_⟩
            · have := O3.out.fr (S := [gc]) ((((Fr.refl [gc] _).set_ (p := ⟨gc, 4, none⟩) (.inl (by simp)) (.int .i64 ((o : Int) + 1))).set_ (p := ⟨gc, 5, none⟩) (.inl (by simp)) (.int .i64 0)).drew) (by simp [Value.ownBlock]; exact fun e => hcr e.symm)
              simpa using this
            · refine fixes Hfix.out ?_
              have := HN.out
              simp only [List.length_append, List.length_cons, List.length_nil, Hp.out, ← Hb.out]
              omega
            · rw [HE.out, flushed, derLen, ← Hb.out, if_pos rfl, if_pos (by omega)]
              simp [bigB]
        · have hoN : o < N := by have := HN.out; omega
          have HX := Lib.hid (show (pre ++ (Z ++ body)).set o (129 : Int) = pre ++ ((129 : Int) :: body) by
            have h1 := HZ.out
            match Z, h1 with
            | [z], _ => rw [List.set_append_right _ _ (by have := Hp.out; omega), Hp.out, Nat.sub_self, List.singleton_append, List.set_cons_zero])
          obtain ⟨x0, x1⟩ := HO2.out.at_ Hlen.out hoN
          have c1 : w2.cell? ⟨gc, 1, none⟩ = some (.slice (some ⟨rc, 0, none⟩) N c) := HD2.out.cell 1
          have c4 : w2.cell? ⟨gc, 4, none⟩ = some (.int .i64 o) := HD2.out.cell 4
          have c5 : w2.cell? ⟨gc, 5, none⟩ = some (.int .i64 1) := HD2.out.cell 5
          have O3 := Lib.hid (HO2.out.stored Hlen.out o (129 : Int))
          rw [HX.out] at O3
          have G3 := Lib.hid (HG2.out.far (p := ⟨rc, o, none⟩) hgr (.int .u8 (129 : Int)))
          have D3 := Lib.hid (HD2.out.far (p := ⟨rc, o, none⟩) hcr (.int .u8 (129 : Int)))
          have F3 := Lib.hid ((HF2.out.mono (S' := [g, gc, rc]) (by simp)).set_ (p := ⟨rc, o, none⟩) (.inl (by simp)) (.int .u8 (129 : Int)))
          have o1 : (o : Int) < (N : Int) := by omega
          generalize (pre ++ (Z ++ body)).getD o 0 = y at *
          go_wp2_with fail
          refine region_tail 10 (by kernel_rfl) (by kernel_rfl) ?_
          simp only [List.take_succ_cons, List.take_zero, List.drop_succ_cons, List.drop_zero]
          repeat still_step
          refine wpStill_nil ?_
          go_wp2_with fail
          obtain ⟨w3, hw3⟩ : ∃ w3, w3 = ((w2.setCell ⟨rc, o, none⟩ (.int .u8 (129 : Int))).alloc (.cells #[.int .u8 0] 5)).drew := ⟨_, rfl⟩
          rw [← hw3]
          have lenA : (pre ++ ((129 : Int) :: body)).length = o + 1 + L := by have h1 := Hp.out; have h2 := Hb.out; simp; omega
          have D4 : Bld K w3 base gc (pre ++ ((129 : Int) :: body)) o 1 true icc (some rc) := by
            rw [hw3]
            refine ⟨_, (D3.out.alloc _).drew, O3.out.alloc _, rfl, ?_⟩
            exact fixes Hfix.out (by rw [lenA]; have := HN.out; omega)
          have G4 : Blk w3 g 65 (eCs ev K.fix.isSome vp off pl pb ic) := by rw [hw3]; exact (G3.out.alloc _).drew
          have F4 : Fr [g, gc, rc] w1 w3 := by rw [hw3]; exact (F3.out.alloc _).drew
          have Z4 : BIn w3 w3.heap.size (some ⟨w2.heap.size, 0, none⟩) [0] := by
            rw [hw3]
            have := (lit_bin (w2.setCell ⟨rc, o, none⟩ (.int .u8 (129 : Int))) [0] #[.int .u8 0] 1 rfl rfl (by omega)).lt
            rw [show (w2.setCell ⟨rc, o, none⟩ (.int .u8 (129 : Int))).heap.size = w2.heap.size by simp] at this
            exact this
          have B4 : base ≤ w3.heap.size := Nat.le_trans hbw F4.size
          have hxl : o + 1 + L + 1 ≤ K.lim := by
            have h1 := Hlx.out (by simp)
            have h2 : extraB L = 1 := by unfold extraB lenB; rw [if_neg (by omega)]; rw [if_pos (by omega)]
            omega
          clear hw3 G3 D3 F3 O3 c1 c4 c5 x0 x1
          refine (add_any K base gc (pre ++ ((129 : Int) :: body)) [0] o 1 true icc (some rc) (some ⟨w2.heap.size, 0, none⟩) 1 1 w3 D4 rfl Z4 (by rw [lenA]; exact hxl) B4).mono ?_
          rintro e w4 ⟨rfl, rb, b4, f4, hrb⟩
          obtain ⟨v4, hc4, ho4, hv4, hfx4⟩ := b4
          obtain ⟨r, hr1, hr2⟩ : ∃ r, rb = some r ∧ (r = rc ∨ w1.heap.size ≤ r) := by
            rcases hrb with rfl | ⟨q, rfl, hq⟩
            · exact ⟨rc, rfl, .inl rfl⟩
            · exact ⟨q, rfl, .inr (Nat.le_trans F4.size hq)⟩
          subst hr1
          obtain ⟨c3, rfl, hc31, hc32⟩ := ho4.row hv4
          obtain ⟨N3, hN3⟩ : ∃ N3, N3 = o + 1 + L + 1 := ⟨_, rfl⟩
          have hlen3 : (pre ++ ((129 : Int) :: body) ++ [0]).length = N3 := by rw [List.length_append, lenA, hN3]; rfl
          rw [hlen3] at hc4 ho4 hc31
          have G5 : Blk w4 g 65 (eCs ev K.fix.isSome vp off pl pb ic) := f4.blk G4 (by simp; exact ⟨hgc, hgr⟩)
          have F5 : Fr [g, gc, rc] w1 w4 := F4.trans f4 (by simp)
          have hgr3 : g ≠ r := fun e => by
            have := ho4.ne_blk G5 (by decide)
            simp [Value.ownBlock, e] at this
          have hcr3 : gc ≠ r := fun e => by
            have := ho4.ne_blk hc4 (by decide)
            simp [Value.ownBlock, e] at this
          have d1 : w4.cell? ⟨gc, 1, none⟩ = some (.slice (some ⟨r, 0, none⟩) N3 c3) := hc4.cell 1
          have d4 : w4.cell? ⟨gc, 4, none⟩ = some (.int .i64 o) := hc4.cell 4
          have d5 : w4.cell? ⟨gc, 5, none⟩ = some (.int .i64 1) := hc4.cell 5
          have hN3le : N3 ≤ 4194304000 := by have := HK.out; omega
          have e3 : IntKind.i64.wrap ((o : Int) + 1) = (o : Int) + 1 := IntWalk.i64_in _ (by omega)
          have e4 : IntKind.i64.wrap ((o : Int) + 1 + 1) = (o : Int) + 1 + 1 := IntWalk.i64_in _ (by omega)
          have sA := fun W => sl_at r N3 c3 ((o : Int) + 1 + 1) (o + 1 + 1) (by omega) (by omega) (by omega) W
          have sB := fun W => sl_at r N3 c3 ((o : Int) + 1) (o + 1) (by omega) (by omega) (by omega) W
          have Hc3 := Lib.hid hc4
          have Ho3 := Lib.hid ho4
          have HG4 := Lib.hid G5
          have HF4 := Lib.hid F5
          have Hlen3 := Lib.hid hlen3
          have HN3 := Lib.hid hN3
          have HlenA := Lib.hid lenA
          have Hfx4 := Lib.hid hfx4
          clear hc4 ho4 G5 F5 hlen3 hN3 lenA D4 G4 F4 Z4 f4 hrb hv4 o1 hfx4
          go_wp2_with fail
          go_quiet (fail)
          go_wp2_with fail
          refine region_tail 14 (by kernel_rfl) (by kernel_rfl) ?_
          simp only [List.take_succ_cons, List.take_zero, List.drop_succ_cons, List.drop_zero]
          repeat still_step
          refine wpStill_nil ?_
          obtain ⟨cur, q1, q2, q3, q4, q5, q6⟩ := Ho3.out.cur Hlen3.out
          have hN3 := HN3.out
          have hbl : (body.map (Value.int .u8)).length = L := by rw [List.length_map, ← Hb.out]
          have hlA := HlenA.out
          have htk : (pre ++ ((129 : Int) :: body) ++ [0]).drop (o + 1) = body ++ [0] := by
            rw [List.append_assoc, List.cons_append, List.drop_append, Hp.out, List.drop_of_length_le (by have := Hp.out; omega), show o + 1 - o = 1 by omega]; rfl
          have hsrc : ∀ (j : Nat) (v : Value), (body.map (Value.int .u8))[j]? = some v → w4.cell? ((⟨r, o + 1, none⟩ : Addr).add j) = some v := by
            intro j v hj
            have hjl : j < body.length := by
              rcases Nat.lt_or_ge j body.length with h | h
              · exact h
              · rw [List.getElem?_eq_none (by simpa using h)] at hj; cases hj
            have := (Ho3.out.at_ Hlen3.out (j := o + 1 + j) (by rw [hN3]; have := Hb.out; omega)).1
            rw [add_plain', this]
            rw [List.getElem?_map, List.getElem?_eq_getElem hjl] at hj
            rw [List.getD_eq_getElem?_getD, ← List.getElem?_drop, htk, List.getElem?_append_left hjl, List.getElem?_eq_getElem hjl]
            exact hj
          refine wpList_copy_own rfl (.tmp 118) (.tmp 124) 22 22 rfl 5 Try.underlying22 (by kernel_rfl) r (o + 1 + 1) (N3 - (o + 1 + 1)) (c3 - (o + 1 + 1)) ⟨r, o + 1, none⟩ (N3 - (o + 1)) (c3 - (o + 1)) rfl rfl cur.toArray 5 q1 (body.map (Value.int .u8))
            (by rw [hbl, hN3]; simp only [Nat.min_def]; split <;> omega) hsrc (by rw [hbl]; simp; omega) (by intro v hv; simp at hv; obtain ⟨y, _, rfl⟩ := hv; rfl) ?_
          simp only
          have O5 := OwnB.setRow (w := (w4.drewN nq).drew) (off := o + 1 + 1) (ys := body) q4 q5 q6 Hlen3.out (show ((w4.drewN nq).drew).heap[r]? = _ from q1) q2 q3 (by have := Hb.out; omega)
          obtain ⟨w5, hw5⟩ : ∃ w5, w5 = (w4.drewN nq).drew.setRow r (List.take (o + 1 + 1) cur ++ (List.map (Value.int .u8) body ++ List.drop (o + 1 + 1 + (List.map (Value.int .u8) body).length) cur)).toArray := ⟨_, rfl⟩
          rw [← hw5] at O5 ⊢
          have F5r : Fr [r] w4 w5 := by rw [hw5]; exact (((Fr.refl [r] w4).drewN nq).drew).setRow (.inl (by simp)) _
          have G5 := F5r.blk HG4.out (by simp; exact hgr3)
          have D5 := F5r.blk Hc3.out (by simp; exact hcr3)
          have F5 : Fr [g, gc, rc] w1 w5 := HF4.out.trans F5r (fun i hi => by
            rw [List.mem_singleton] at hi
            subst hi
            rcases hr2 with rfl | h
            · exact .inl (by simp)
            · exact .inr h)
          have p4 : w5.cell? ⟨gc, 4, none⟩ = some (.int .i64 o) := D5.cell 4
          have p5 : w5.cell? ⟨gc, 5, none⟩ = some (.int .i64 1) := D5.cell 5
          have pf4 := D5.frozen 4
          have pf5 := D5.frozen 5
          have HO5 := Lib.hid O5
          have HG5 := Lib.hid G5
          have HD5 := Lib.hid D5
          have HF5 := Lib.hid F5
          have HT := Lib.hid htk
          clear hw5 O5 G5 D5 F5 F5r q1 q2 q3 hbl hsrc d1 d4 d5 sA sB e4 hN3 hlA htk
          go_wp2_with fail
          go_meet
          case rel =>
            have eC : (pre ++ ((129 : Int) :: body) ++ [0]).take (o + 1 + 1) ++ body = (pre ++ [(129 : Int)]) ++ ((body ++ [0]).take 1 ++ body) := by
              rw [List.take_add, HT.out, ← List.append_assoc]
              congr 2
              rw [List.append_assoc, List.take_append, Hp.out, List.take_of_length_le (by have := Hp.out; omega), show o + 1 - o = 1 by omega]
              rfl
            have O6 := HO5.out.fr (S := [gc]) (((Fr.refl [gc] _).set_ (p := ⟨gc, 4, none⟩) (.inl (by simp)) (.int .i64 ((o : Int) + 1))).set_ (p := ⟨gc, 5, none⟩) (.inl (by simp)) (.int .i64 1)) (by simp [Value.ownBlock]; exact fun e => hcr3 e.symm)
            rw [eC] at O6
            have hZl : ((body ++ [0]).take 1).length = 1 := by rw [List.length_take, List.length_append, ← Hb.out]; first | (simp; done) | (simp; omega)
            have hN3 := HN3.out
            refine ⟨rfl, L, 1, o + 1, r, pre ++ [(129 : Int)], (body ++ [0]).take 1, rfl, (HG5.out.far (p := ⟨gc, 4, none⟩) hgc _).far (p := ⟨gc, 5, none⟩) hgc _, ⟨_, (HD5.out.set_ 4 _).set_ 5 _, O6, rfl, ?_⟩, by simp [Hp.out], hZl, by omega, by omega, by omega, by have := HN.out; rw [← Hb.out]; omega, (HF5.out.set_ (p := ⟨gc, 4, none⟩) (.inl (by simp)) _).set_ (p := ⟨gc, 5, none⟩) (.inl (by simp)) _, hr2, ?_⟩
            · refine fixes Hfx4.out ?_
              rw [List.length_append, List.length_append, List.length_append, hZl, ← Hb.out, Hp.out, List.length_singleton]
              omega
            · have hlb : lenB L = 1 := by unfold lenB; rw [if_pos (by omega)]
              rw [HE.out, flushed, derLen, ← Hb.out, if_pos rfl, if_neg (by omega), hlb, if_pos (by have := hL24; omega)]
              simp
        · have hoN : o < N := by have := HN.out; omega
          have HX := Lib.hid (show (pre ++ (Z ++ body)).set o (130 : Int) = pre ++ ((130 : Int) :: body) by
            have h1 := HZ.out
            match Z, h1 with
            | [z], _ => rw [List.set_append_right _ _ (by have := Hp.out; omega), Hp.out, Nat.sub_self, List.singleton_append, List.set_cons_zero])
          obtain ⟨x0, x1⟩ := HO2.out.at_ Hlen.out hoN
          have c1 : w2.cell? ⟨gc, 1, none⟩ = some (.slice (some ⟨rc, 0, none⟩) N c) := HD2.out.cell 1
          have c4 : w2.cell? ⟨gc, 4, none⟩ = some (.int .i64 o) := HD2.out.cell 4
          have c5 : w2.cell? ⟨gc, 5, none⟩ = some (.int .i64 1) := HD2.out.cell 5
          have O3 := Lib.hid (HO2.out.stored Hlen.out o (130 : Int))
          rw [HX.out] at O3
          have G3 := Lib.hid (HG2.out.far (p := ⟨rc, o, none⟩) hgr (.int .u8 (130 : Int)))
          have D3 := Lib.hid (HD2.out.far (p := ⟨rc, o, none⟩) hcr (.int .u8 (130 : Int)))
          have F3 := Lib.hid ((HF2.out.mono (S' := [g, gc, rc]) (by simp)).set_ (p := ⟨rc, o, none⟩) (.inl (by simp)) (.int .u8 (130 : Int)))
          have o1 : (o : Int) < (N : Int) := by omega
          generalize (pre ++ (Z ++ body)).getD o 0 = y at *
          go_wp2_with fail
          refine region_tail 10 (by kernel_rfl) (by kernel_rfl) ?_
          simp only [List.take_succ_cons, List.take_zero, List.drop_succ_cons, List.drop_zero]
          repeat still_step
          refine wpStill_nil ?_
          go_wp2_with fail
          obtain ⟨w3, hw3⟩ : ∃ w3, w3 = ((w2.setCell ⟨rc, o, none⟩ (.int .u8 (130 : Int))).alloc (.cells #[.int .u8 0, .int .u8 0] 5)).drew := ⟨_, rfl⟩
          rw [← hw3]
          have lenA : (pre ++ ((130 : Int) :: body)).length = o + 1 + L := by have h1 := Hp.out; have h2 := Hb.out; simp; omega
          have D4 : Bld K w3 base gc (pre ++ ((130 : Int) :: body)) o 1 true icc (some rc) := by
            rw [hw3]
            refine ⟨_, (D3.out.alloc _).drew, O3.out.alloc _, rfl, ?_⟩
            exact fixes Hfix.out (by rw [lenA]; have := HN.out; omega)
          have G4 : Blk w3 g 65 (eCs ev K.fix.isSome vp off pl pb ic) := by rw [hw3]; exact (G3.out.alloc _).drew
          have F4 : Fr [g, gc, rc] w1 w3 := by rw [hw3]; exact (F3.out.alloc _).drew
          have Z4 : BIn w3 w3.heap.size (some ⟨w2.heap.size, 0, none⟩) [0, 0] := by
            rw [hw3]
            have := (lit_bin (w2.setCell ⟨rc, o, none⟩ (.int .u8 (130 : Int))) [0, 0] #[.int .u8 0, .int .u8 0] 2 rfl rfl (by omega)).lt
            rw [show (w2.setCell ⟨rc, o, none⟩ (.int .u8 (130 : Int))).heap.size = w2.heap.size by simp] at this
            exact this
          have B4 : base ≤ w3.heap.size := Nat.le_trans hbw F4.size
          have hxl : o + 1 + L + 2 ≤ K.lim := by
            have h1 := Hlx.out (by simp)
            have h2 : extraB L = 2 := by unfold extraB lenB; rw [if_neg (by omega)]; rw [if_neg (by omega), if_pos (by omega)]
            omega
          clear hw3 G3 D3 F3 O3 c1 c4 c5 x0 x1
          refine (add_any K base gc (pre ++ ((130 : Int) :: body)) [0, 0] o 1 true icc (some rc) (some ⟨w2.heap.size, 0, none⟩) 2 2 w3 D4 rfl Z4 (by rw [lenA]; exact hxl) B4).mono ?_
          rintro e w4 ⟨rfl, rb, b4, f4, hrb⟩
          obtain ⟨v4, hc4, ho4, hv4, hfx4⟩ := b4
          obtain ⟨r, hr1, hr2⟩ : ∃ r, rb = some r ∧ (r = rc ∨ w1.heap.size ≤ r) := by
            rcases hrb with rfl | ⟨q, rfl, hq⟩
            · exact ⟨rc, rfl, .inl rfl⟩
            · exact ⟨q, rfl, .inr (Nat.le_trans F4.size hq)⟩
          subst hr1
          obtain ⟨c3, rfl, hc31, hc32⟩ := ho4.row hv4
          obtain ⟨N3, hN3⟩ : ∃ N3, N3 = o + 1 + L + 2 := ⟨_, rfl⟩
          have hlen3 : (pre ++ ((130 : Int) :: body) ++ [0, 0]).length = N3 := by rw [List.length_append, lenA, hN3]; rfl
          rw [hlen3] at hc4 ho4 hc31
          have G5 : Blk w4 g 65 (eCs ev K.fix.isSome vp off pl pb ic) := f4.blk G4 (by simp; exact ⟨hgc, hgr⟩)
          have F5 : Fr [g, gc, rc] w1 w4 := F4.trans f4 (by simp)
          have hgr3 : g ≠ r := fun e => by
            have := ho4.ne_blk G5 (by decide)
            simp [Value.ownBlock, e] at this
          have hcr3 : gc ≠ r := fun e => by
            have := ho4.ne_blk hc4 (by decide)
            simp [Value.ownBlock, e] at this
          have d1 : w4.cell? ⟨gc, 1, none⟩ = some (.slice (some ⟨r, 0, none⟩) N3 c3) := hc4.cell 1
          have d4 : w4.cell? ⟨gc, 4, none⟩ = some (.int .i64 o) := hc4.cell 4
          have d5 : w4.cell? ⟨gc, 5, none⟩ = some (.int .i64 1) := hc4.cell 5
          have hN3le : N3 ≤ 4194304000 := by have := HK.out; omega
          have e3 : IntKind.i64.wrap ((o : Int) + 1) = (o : Int) + 1 := IntWalk.i64_in _ (by omega)
          have e4 : IntKind.i64.wrap ((o : Int) + 1 + 2) = (o : Int) + 1 + 2 := IntWalk.i64_in _ (by omega)
          have sA := fun W => sl_at r N3 c3 ((o : Int) + 1 + 2) (o + 1 + 2) (by omega) (by omega) (by omega) W
          have sB := fun W => sl_at r N3 c3 ((o : Int) + 1) (o + 1) (by omega) (by omega) (by omega) W
          have Hc3 := Lib.hid hc4
          have Ho3 := Lib.hid ho4
          have HG4 := Lib.hid G5
          have HF4 := Lib.hid F5
          have Hlen3 := Lib.hid hlen3
          have HN3 := Lib.hid hN3
          have HlenA := Lib.hid lenA
          have Hfx4 := Lib.hid hfx4
          clear hc4 ho4 G5 F5 hlen3 hN3 lenA D4 G4 F4 Z4 f4 hrb hv4 o1 hfx4
          go_wp2_with fail
          go_quiet (fail)
          go_wp2_with fail
          refine region_tail 14 (by kernel_rfl) (by kernel_rfl) ?_
          simp only [List.take_succ_cons, List.take_zero, List.drop_succ_cons, List.drop_zero]
          repeat still_step
          refine wpStill_nil ?_
          obtain ⟨cur, q1, q2, q3, q4, q5, q6⟩ := Ho3.out.cur Hlen3.out
          have hN3 := HN3.out
          have hbl : (body.map (Value.int .u8)).length = L := by rw [List.length_map, ← Hb.out]
          have hlA := HlenA.out
          have htk : (pre ++ ((130 : Int) :: body) ++ [0, 0]).drop (o + 1) = body ++ [0, 0] := by
            rw [List.append_assoc, List.cons_append, List.drop_append, Hp.out, List.drop_of_length_le (by have := Hp.out; omega), show o + 1 - o = 1 by omega]; rfl
          have hsrc : ∀ (j : Nat) (v : Value), (body.map (Value.int .u8))[j]? = some v → w4.cell? ((⟨r, o + 1, none⟩ : Addr).add j) = some v := by
            intro j v hj
            have hjl : j < body.length := by
              rcases Nat.lt_or_ge j body.length with h | h
              · exact h
              · rw [List.getElem?_eq_none (by simpa using h)] at hj; cases hj
            have := (Ho3.out.at_ Hlen3.out (j := o + 1 + j) (by rw [hN3]; have := Hb.out; omega)).1
            rw [add_plain', this]
            rw [List.getElem?_map, List.getElem?_eq_getElem hjl] at hj
            rw [List.getD_eq_getElem?_getD, ← List.getElem?_drop, htk, List.getElem?_append_left hjl, List.getElem?_eq_getElem hjl]
            exact hj
          refine wpList_copy_own rfl (.tmp 118) (.tmp 124) 22 22 rfl 5 Try.underlying22 (by kernel_rfl) r (o + 1 + 2) (N3 - (o + 1 + 2)) (c3 - (o + 1 + 2)) ⟨r, o + 1, none⟩ (N3 - (o + 1)) (c3 - (o + 1)) rfl rfl cur.toArray 5 q1 (body.map (Value.int .u8))
            (by rw [hbl, hN3]; simp only [Nat.min_def]; split <;> omega) hsrc (by rw [hbl]; simp; omega) (by intro v hv; simp at hv; obtain ⟨y, _, rfl⟩ := hv; rfl) ?_
          simp only
          have O5 := OwnB.setRow (w := (w4.drewN nq).drew) (off := o + 1 + 2) (ys := body) q4 q5 q6 Hlen3.out (show ((w4.drewN nq).drew).heap[r]? = _ from q1) q2 q3 (by have := Hb.out; omega)
          obtain ⟨w5, hw5⟩ : ∃ w5, w5 = (w4.drewN nq).drew.setRow r (List.take (o + 1 + 2) cur ++ (List.map (Value.int .u8) body ++ List.drop (o + 1 + 2 + (List.map (Value.int .u8) body).length) cur)).toArray := ⟨_, rfl⟩
          rw [← hw5] at O5 ⊢
          have F5r : Fr [r] w4 w5 := by rw [hw5]; exact (((Fr.refl [r] w4).drewN nq).drew).setRow (.inl (by simp)) _
          have G5 := F5r.blk HG4.out (by simp; exact hgr3)
          have D5 := F5r.blk Hc3.out (by simp; exact hcr3)
          have F5 : Fr [g, gc, rc] w1 w5 := HF4.out.trans F5r (fun i hi => by
            rw [List.mem_singleton] at hi
            subst hi
            rcases hr2 with rfl | h
            · exact .inl (by simp)
            · exact .inr h)
          have p4 : w5.cell? ⟨gc, 4, none⟩ = some (.int .i64 o) := D5.cell 4
          have p5 : w5.cell? ⟨gc, 5, none⟩ = some (.int .i64 1) := D5.cell 5
          have pf4 := D5.frozen 4
          have pf5 := D5.frozen 5
          have HO5 := Lib.hid O5
          have HG5 := Lib.hid G5
          have HD5 := Lib.hid D5
          have HF5 := Lib.hid F5
          have HT := Lib.hid htk
          clear hw5 O5 G5 D5 F5 F5r q1 q2 q3 hbl hsrc d1 d4 d5 sA sB e4 hN3 hlA htk
          go_wp2_with fail
          go_meet
          case rel =>
            have eC : (pre ++ ((130 : Int) :: body) ++ [0, 0]).take (o + 1 + 2) ++ body = (pre ++ [(130 : Int)]) ++ ((body ++ [0, 0]).take 2 ++ body) := by
              rw [List.take_add, HT.out, ← List.append_assoc]
              congr 2
              rw [List.append_assoc, List.take_append, Hp.out, List.take_of_length_le (by have := Hp.out; omega), show o + 1 - o = 1 by omega]
              rfl
            have O6 := HO5.out.fr (S := [gc]) (((Fr.refl [gc] _).set_ (p := ⟨gc, 4, none⟩) (.inl (by simp)) (.int .i64 ((o : Int) + 1))).set_ (p := ⟨gc, 5, none⟩) (.inl (by simp)) (.int .i64 2)) (by simp [Value.ownBlock]; exact fun e => hcr3 e.symm)
            rw [eC] at O6
            have hZl : ((body ++ [0, 0]).take 2).length = 2 := by rw [List.length_take, List.length_append, ← Hb.out]; first | (simp; done) | (simp; omega)
            have hN3 := HN3.out
            refine ⟨rfl, L, 2, o + 1, r, pre ++ [(130 : Int)], (body ++ [0, 0]).take 2, rfl, (HG5.out.far (p := ⟨gc, 4, none⟩) hgc _).far (p := ⟨gc, 5, none⟩) hgc _, ⟨_, (HD5.out.set_ 4 _).set_ 5 _, O6, rfl, ?_⟩, by simp [Hp.out], hZl, by omega, by omega, by omega, by have := HN.out; rw [← Hb.out]; omega, (HF5.out.set_ (p := ⟨gc, 4, none⟩) (.inl (by simp)) _).set_ (p := ⟨gc, 5, none⟩) (.inl (by simp)) _, hr2, ?_⟩
            · refine fixes Hfx4.out ?_
              rw [List.length_append, List.length_append, List.length_append, hZl, ← Hb.out, Hp.out, List.length_singleton]
              omega
            · have hlb : lenB L = 2 := by unfold lenB; rw [if_neg (by omega), if_pos (by omega)]
              rw [HE.out, flushed, derLen, ← Hb.out, if_pos rfl, if_neg (by omega), hlb, if_pos (by have := hL24; omega)]
              simp
        · have hoN : o < N := by have := HN.out; omega
          have HX := Lib.hid (show (pre ++ (Z ++ body)).set o (131 : Int) = pre ++ ((131 : Int) :: body) by
            have h1 := HZ.out
            match Z, h1 with
            | [z], _ => rw [List.set_append_right _ _ (by have := Hp.out; omega), Hp.out, Nat.sub_self, List.singleton_append, List.set_cons_zero])
          obtain ⟨x0, x1⟩ := HO2.out.at_ Hlen.out hoN
          have c1 : w2.cell? ⟨gc, 1, none⟩ = some (.slice (some ⟨rc, 0, none⟩) N c) := HD2.out.cell 1
          have c4 : w2.cell? ⟨gc, 4, none⟩ = some (.int .i64 o) := HD2.out.cell 4
          have c5 : w2.cell? ⟨gc, 5, none⟩ = some (.int .i64 1) := HD2.out.cell 5
          have O3 := Lib.hid (HO2.out.stored Hlen.out o (131 : Int))
          rw [HX.out] at O3
          have G3 := Lib.hid (HG2.out.far (p := ⟨rc, o, none⟩) hgr (.int .u8 (131 : Int)))
          have D3 := Lib.hid (HD2.out.far (p := ⟨rc, o, none⟩) hcr (.int .u8 (131 : Int)))
          have F3 := Lib.hid ((HF2.out.mono (S' := [g, gc, rc]) (by simp)).set_ (p := ⟨rc, o, none⟩) (.inl (by simp)) (.int .u8 (131 : Int)))
          have o1 : (o : Int) < (N : Int) := by omega
          generalize (pre ++ (Z ++ body)).getD o 0 = y at *
          go_wp2_with fail
          refine region_tail 10 (by kernel_rfl) (by kernel_rfl) ?_
          simp only [List.take_succ_cons, List.take_zero, List.drop_succ_cons, List.drop_zero]
          repeat still_step
          refine wpStill_nil ?_
          go_wp2_with fail
          obtain ⟨w3, hw3⟩ : ∃ w3, w3 = ((w2.setCell ⟨rc, o, none⟩ (.int .u8 (131 : Int))).alloc (.cells #[.int .u8 0, .int .u8 0, .int .u8 0] 5)).drew := ⟨_, rfl⟩
          rw [← hw3]
          have lenA : (pre ++ ((131 : Int) :: body)).length = o + 1 + L := by have h1 := Hp.out; have h2 := Hb.out; simp; omega
          have D4 : Bld K w3 base gc (pre ++ ((131 : Int) :: body)) o 1 true icc (some rc) := by
            rw [hw3]
            refine ⟨_, (D3.out.alloc _).drew, O3.out.alloc _, rfl, ?_⟩
            exact fixes Hfix.out (by rw [lenA]; have := HN.out; omega)
          have G4 : Blk w3 g 65 (eCs ev K.fix.isSome vp off pl pb ic) := by rw [hw3]; exact (G3.out.alloc _).drew
          have F4 : Fr [g, gc, rc] w1 w3 := by rw [hw3]; exact (F3.out.alloc _).drew
          have Z4 : BIn w3 w3.heap.size (some ⟨w2.heap.size, 0, none⟩) [0, 0, 0] := by
            rw [hw3]
            have := (lit_bin (w2.setCell ⟨rc, o, none⟩ (.int .u8 (131 : Int))) [0, 0, 0] #[.int .u8 0, .int .u8 0, .int .u8 0] 3 rfl rfl (by omega)).lt
            rw [show (w2.setCell ⟨rc, o, none⟩ (.int .u8 (131 : Int))).heap.size = w2.heap.size by simp] at this
            exact this
          have B4 : base ≤ w3.heap.size := Nat.le_trans hbw F4.size
          have hxl : o + 1 + L + 3 ≤ K.lim := by
            have h1 := Hlx.out (by simp)
            have h2 : extraB L = 3 := by unfold extraB lenB; rw [if_neg (by omega)]; rw [if_neg (by omega), if_neg (by omega)]
            omega
          clear hw3 G3 D3 F3 O3 c1 c4 c5 x0 x1
          refine (add_any K base gc (pre ++ ((131 : Int) :: body)) [0, 0, 0] o 1 true icc (some rc) (some ⟨w2.heap.size, 0, none⟩) 3 3 w3 D4 rfl Z4 (by rw [lenA]; exact hxl) B4).mono ?_
          rintro e w4 ⟨rfl, rb, b4, f4, hrb⟩
          obtain ⟨v4, hc4, ho4, hv4, hfx4⟩ := b4
          obtain ⟨r, hr1, hr2⟩ : ∃ r, rb = some r ∧ (r = rc ∨ w1.heap.size ≤ r) := by
            rcases hrb with rfl | ⟨q, rfl, hq⟩
            · exact ⟨rc, rfl, .inl rfl⟩
            · exact ⟨q, rfl, .inr (Nat.le_trans F4.size hq)⟩
          subst hr1
          obtain ⟨c3, rfl, hc31, hc32⟩ := ho4.row hv4
          obtain ⟨N3, hN3⟩ : ∃ N3, N3 = o + 1 + L + 3 := ⟨_, rfl⟩
          have hlen3 : (pre ++ ((131 : Int) :: body) ++ [0, 0, 0]).length = N3 := by rw [List.length_append, lenA, hN3]; rfl
          rw [hlen3] at hc4 ho4 hc31
          have G5 : Blk w4 g 65 (eCs ev K.fix.isSome vp off pl pb ic) := f4.blk G4 (by simp; exact ⟨hgc, hgr⟩)
          have F5 : Fr [g, gc, rc] w1 w4 := F4.trans f4 (by simp)
          have hgr3 : g ≠ r := fun e => by
            have := ho4.ne_blk G5 (by decide)
            simp [Value.ownBlock, e] at this
          have hcr3 : gc ≠ r := fun e => by
            have := ho4.ne_blk hc4 (by decide)
            simp [Value.ownBlock, e] at this
          have d1 : w4.cell? ⟨gc, 1, none⟩ = some (.slice (some ⟨r, 0, none⟩) N3 c3) := hc4.cell 1
          have d4 : w4.cell? ⟨gc, 4, none⟩ = some (.int .i64 o) := hc4.cell 4
          have d5 : w4.cell? ⟨gc, 5, none⟩ = some (.int .i64 1) := hc4.cell 5
          have hN3le : N3 ≤ 4194304000 := by have := HK.out; omega
          have e3 : IntKind.i64.wrap ((o : Int) + 1) = (o : Int) + 1 := IntWalk.i64_in _ (by omega)
          have e4 : IntKind.i64.wrap ((o : Int) + 1 + 3) = (o : Int) + 1 + 3 := IntWalk.i64_in _ (by omega)
          have sA := fun W => sl_at r N3 c3 ((o : Int) + 1 + 3) (o + 1 + 3) (by omega) (by omega) (by omega) W
          have sB := fun W => sl_at r N3 c3 ((o : Int) + 1) (o + 1) (by omega) (by omega) (by omega) W
          have Hc3 := Lib.hid hc4
          have Ho3 := Lib.hid ho4
          have HG4 := Lib.hid G5
          have HF4 := Lib.hid F5
          have Hlen3 := Lib.hid hlen3
          have HN3 := Lib.hid hN3
          have HlenA := Lib.hid lenA
          have Hfx4 := Lib.hid hfx4
          clear hc4 ho4 G5 F5 hlen3 hN3 lenA D4 G4 F4 Z4 f4 hrb hv4 o1 hfx4
          go_wp2_with fail
          go_quiet (fail)
          go_wp2_with fail
          refine region_tail 14 (by kernel_rfl) (by kernel_rfl) ?_
          simp only [List.take_succ_cons, List.take_zero, List.drop_succ_cons, List.drop_zero]
          repeat still_step
          refine wpStill_nil ?_
          obtain ⟨cur, q1, q2, q3, q4, q5, q6⟩ := Ho3.out.cur Hlen3.out
          have hN3 := HN3.out
          have hbl : (body.map (Value.int .u8)).length = L := by rw [List.length_map, ← Hb.out]
          have hlA := HlenA.out
          have htk : (pre ++ ((131 : Int) :: body) ++ [0, 0, 0]).drop (o + 1) = body ++ [0, 0, 0] := by
            rw [List.append_assoc, List.cons_append, List.drop_append, Hp.out, List.drop_of_length_le (by have := Hp.out; omega), show o + 1 - o = 1 by omega]; rfl
          have hsrc : ∀ (j : Nat) (v : Value), (body.map (Value.int .u8))[j]? = some v → w4.cell? ((⟨r, o + 1, none⟩ : Addr).add j) = some v := by
            intro j v hj
            have hjl : j < body.length := by
              rcases Nat.lt_or_ge j body.length with h | h
              · exact h
              · rw [List.getElem?_eq_none (by simpa using h)] at hj; cases hj
            have := (Ho3.out.at_ Hlen3.out (j := o + 1 + j) (by rw [hN3]; have := Hb.out; omega)).1
            rw [add_plain', this]
            rw [List.getElem?_map, List.getElem?_eq_getElem hjl] at hj
            rw [List.getD_eq_getElem?_getD, ← List.getElem?_drop, htk, List.getElem?_append_left hjl, List.getElem?_eq_getElem hjl]
            exact hj
          refine wpList_copy_own rfl (.tmp 118) (.tmp 124) 22 22 rfl 5 Try.underlying22 (by kernel_rfl) r (o + 1 + 3) (N3 - (o + 1 + 3)) (c3 - (o + 1 + 3)) ⟨r, o + 1, none⟩ (N3 - (o + 1)) (c3 - (o + 1)) rfl rfl cur.toArray 5 q1 (body.map (Value.int .u8))
            (by rw [hbl, hN3]; simp only [Nat.min_def]; split <;> omega) hsrc (by rw [hbl]; simp; omega) (by intro v hv; simp at hv; obtain ⟨y, _, rfl⟩ := hv; rfl) ?_
          simp only
          have O5 := OwnB.setRow (w := (w4.drewN nq).drew) (off := o + 1 + 3) (ys := body) q4 q5 q6 Hlen3.out (show ((w4.drewN nq).drew).heap[r]? = _ from q1) q2 q3 (by have := Hb.out; omega)
          obtain ⟨w5, hw5⟩ : ∃ w5, w5 = (w4.drewN nq).drew.setRow r (List.take (o + 1 + 3) cur ++ (List.map (Value.int .u8) body ++ List.drop (o + 1 + 3 + (List.map (Value.int .u8) body).length) cur)).toArray := ⟨_, rfl⟩
          rw [← hw5] at O5 ⊢
          have F5r : Fr [r] w4 w5 := by rw [hw5]; exact (((Fr.refl [r] w4).drewN nq).drew).setRow (.inl (by simp)) _
          have G5 := F5r.blk HG4.out (by simp; exact hgr3)
          have D5 := F5r.blk Hc3.out (by simp; exact hcr3)
          have F5 : Fr [g, gc, rc] w1 w5 := HF4.out.trans F5r (fun i hi => by
            rw [List.mem_singleton] at hi
            subst hi
            rcases hr2 with rfl | h
            · exact .inl (by simp)
            · exact .inr h)
          have p4 : w5.cell? ⟨gc, 4, none⟩ = some (.int .i64 o) := D5.cell 4
          have p5 : w5.cell? ⟨gc, 5, none⟩ = some (.int .i64 1) := D5.cell 5
          have pf4 := D5.frozen 4
          have pf5 := D5.frozen 5
          have HO5 := Lib.hid O5
          have HG5 := Lib.hid G5
          have HD5 := Lib.hid D5
          have HF5 := Lib.hid F5
          have HT := Lib.hid htk
          clear hw5 O5 G5 D5 F5 F5r q1 q2 q3 hbl hsrc d1 d4 d5 sA sB e4 hN3 hlA htk
          go_wp2_with fail
          go_meet
          case rel =>
            have eC : (pre ++ ((131 : Int) :: body) ++ [0, 0, 0]).take (o + 1 + 3) ++ body = (pre ++ [(131 : Int)]) ++ ((body ++ [0, 0, 0]).take 3 ++ body) := by
              rw [List.take_add, HT.out, ← List.append_assoc]
              congr 2
              rw [List.append_assoc, List.take_append, Hp.out, List.take_of_length_le (by have := Hp.out; omega), show o + 1 - o = 1 by omega]
              rfl
            have O6 := HO5.out.fr (S := [gc]) (((Fr.refl [gc] _).set_ (p := ⟨gc, 4, none⟩) (.inl (by simp)) (.int .i64 ((o : Int) + 1))).set_ (p := ⟨gc, 5, none⟩) (.inl (by simp)) (.int .i64 3)) (by simp [Value.ownBlock]; exact fun e => hcr3 e.symm)
            rw [eC] at O6
            have hZl : ((body ++ [0, 0, 0]).take 3).length = 3 := by rw [List.length_take, List.length_append, ← Hb.out]; first | (simp; done) | (simp; omega)
            have hN3 := HN3.out
            refine ⟨rfl, L, 3, o + 1, r, pre ++ [(131 : Int)], (body ++ [0, 0, 0]).take 3, rfl, (HG5.out.far (p := ⟨gc, 4, none⟩) hgc _).far (p := ⟨gc, 5, none⟩) hgc _, ⟨_, (HD5.out.set_ 4 _).set_ 5 _, O6, rfl, ?_⟩, by simp [Hp.out], hZl, by omega, by omega, by omega, by have := HN.out; rw [← Hb.out]; omega, (HF5.out.set_ (p := ⟨gc, 4, none⟩) (.inl (by simp)) _).set_ (p := ⟨gc, 5, none⟩) (.inl (by simp)) _, hr2, ?_⟩
            · refine fixes Hfx4.out ?_
              rw [List.length_append, List.length_append, List.length_append, hZl, ← Hb.out, Hp.out, List.length_singleton]
              omega
            · have hlb : lenB L = 3 := by unfold lenB; rw [if_neg (by omega), if_neg (by omega)]
              rw [HE.out, flushed, derLen, ← Hb.out, if_pos rfl, if_neg (by omega), hlb, if_pos (by have := hL24; omega)]
              simp
    case rest =>
      obtain ⟨rfl, L2, k2, o2, rc2, pre2, Z2, rfl, hg, hc, hp2, hz2, hk2, hL2, hok, hN2, hF, hrc2, hE⟩ := hcut
      have hrr := hrc2
      obtain ⟨v, hc, hown, hrc, hfix⟩ := hc
      obtain ⟨c9, rfl, hc1', hc2'⟩ := hown.row hrc
      obtain ⟨N9, hN9⟩ : ∃ N9, N9 = o2 + (k2 + L) := ⟨_, rfl⟩
      have hlen : (pre2 ++ (Z2 ++ body)).length = N9 := by have := Hb.out; simp; omega
      rw [hlen] at hc hown hc1'
      have hgr9 : g ≠ rc2 := fun e => by
        have := hown.ne_blk hg (by decide)
        simp [Value.ownBlock, e] at this
      have hcr9 : gc ≠ rc2 := fun e => by
        have := hown.ne_blk hc (by decide)
        simp [Value.ownBlock, e] at this
      have b5 : wc.cell? ⟨gc, 5, none⟩ = some (.int .i64 k2) := hc.cell 5
      have b4 : wc.cell? ⟨gc, 4, none⟩ = some (.int .i64 o2) := hc.cell 4
      have hNle : N9 ≤ 4194304000 := by have := Hb.out; omega
      have O0 : OwnB wc base 5 (.slice (some ⟨rc2, 0, none⟩) N9 c9) (Mid pre2 body Z2 k2 0 L2) := by rw [mid_zero pre2 body L2 hz2]; exact hown
      have HG := Lib.hid hg
      have HC := Lib.hid hc
      have HO := Lib.hid O0
      have HF := Lib.hid hF
      have Hp2 := Lib.hid hp2
      have Hz2 := Lib.hid hz2
      have HN9 := Lib.hid hN9
      have HE2 := Lib.hid hE
      have Hfix9 := Lib.hid hfix
      have Hrr := Lib.hid hrr
      obtain ⟨fx, hfx⟩ : ∃ fx, fx = K.fix.isSome := ⟨_, rfl⟩
      rw [← hfx] at HG HC
      have Hfx := Lib.hid hfx
      have hN9o : 1 ≤ N9 := by omega
      clear hg hc hown O0 hF hp2 hz2 hlen hN9 hE hfix hrr hrc2 hN2 hok hrc hfx
      have hpos : 1 ≤ N9 := hN9o
      clear hN9o
      go_wp2_with fail
      clear b4 b5
      go_loopw [8, 9] (fun l i wr => ∃ j : Nat, j ≤ k2 ∧ i = .int .i64 ((k2 : Int) - 1 - j) ∧ l = .int .i64 ((L2 / 256 ^ j : Nat) : Int) ∧ Blk wr g 65 (eCs ev fx vp off pl pb ic) ∧ Blk wr gc 65 (bCs fx (.slice (some ⟨rc2, 0, none⟩) N9 c9) o2 k2 pa icc) ∧
        OwnB wr base 5 (.slice (some ⟨rc2, 0, none⟩) N9 c9) (Mid pre2 body Z2 k2 j L2) ∧ Fr [rc2] wc wr) (fun _ i _ => (intOf i + 1).toNat)
      case atStart => exact ⟨0, Nat.zero_le _, by go_num, by simp, HG.out, HC.out, HO.out, Fr.refl _ _⟩
      case round =>
        obtain ⟨j, hj, rfl, rfl, hg, hc, hown, hfr⟩ := hrel
        have b1 : wr.cell? ⟨gc, 1, none⟩ = some (.slice (some ⟨rc2, 0, none⟩) N9 c9) := hc.cell 1
        have b4 : wr.cell? ⟨gc, 4, none⟩ = some (.int .i64 o2) := hc.cell 4
        have Hg1 := Lib.hid hg
        have Hc1 := Lib.hid hc
        have Ho1 := Lib.hid hown
        have Hf1 := Lib.hid hfr
        by_cases hlt : j < k2
        · obtain ⟨i, hi⟩ : ∃ i, i = k2 - 1 - j := ⟨_, rfl⟩
          have hi' : (k2 : Int) - 1 - j = (i : Int) := by omega
          have hiN : o2 + i < N9 := by have := HN9.out; omega
          obtain ⟨x0, x1⟩ := hown.at_ (by rw [mid_len pre2 body L2 Hz2.out hj, Hp2.out, ← Hb.out]; have := HN9.out; omega) hiN
          have M := Lib.hid (mid_set pre2 body L2 Hz2.out hlt)
          rw [Hp2.out, ← hi] at M
          have Hi := Lib.hid hi
          have Qd := Lib.hid (show L2 / 256 ^ (j + 1) = L2 / 256 ^ j / 256 by rw [Nat.pow_succ, Nat.div_div_eq_div_mul])
          have hq : L2 / 256 ^ j ≤ 4194304000 := Nat.le_trans (Nat.div_le_self _ _) hL2
          have i1 : (o2 : Int) + (i : Int) < (N9 : Int) := by omega
          have i2 : IntKind.i64.wrap ((o2 : Int) + (i : Int)) = (o2 : Int) + (i : Int) := IntWalk.i64_in _ (by omega)
          have i3 : (0 : Int) ≤ (o2 : Int) + (i : Int) := by omega
          have i4 : ((o2 : Int) + (i : Int)).toNat = o2 + i := by omega
          rw [hi']
          generalize L2 / 256 ^ j = q at *
          generalize (Mid pre2 body Z2 k2 j L2).getD (o2 + i) 0 = y at *
          clear hi hi' hg hc hown hfr
          go_wp2_with fail
          refine region_tail 13 (by kernel_rfl) (by kernel_rfl) ?_
          simp only [List.take_succ_cons, List.take_zero, List.drop_succ_cons, List.drop_zero]
          repeat still_step
          refine wpStill_nil ?_
          go_wp2_with fail
          go_roundw
          case rel =>
            have hN := HN9.out
            have hi := Hi.out
            refine ⟨j + 1, by omega, by congr 1; omega, by rw [Qd.out]; rfl, (Hg1.out.far (p := ⟨rc2, o2 + i, none⟩) hgr9 _).drew, (Hc1.out.far (p := ⟨rc2, o2 + i, none⟩) hcr9 _).drew, ?_, (Hf1.out.set_ (p := ⟨rc2, o2 + i, none⟩) (.inl (by simp)) _).drew⟩
            rw [← M.out]
            exact Ho1.out.stored (by rw [mid_len pre2 body L2 Hz2.out hj, Hp2.out, ← Hb.out]; omega) _ _
          case measure => first | (simp [intOf]; done) | (simp [intOf]; omega)
        · have hjk : j = k2 := by omega
          subst hjk
          obtain ⟨R, hR⟩ : ∃ R, R = L2 / 256 ^ j := ⟨_, rfl⟩
          rw [← hR]
          have HR := Lib.hid hR
          have Hq9 := Lib.hid (Nat.le_trans (Nat.div_le_self L2 (256 ^ j)) hL2)
          clear hR hg hc hown hfr
          have hi' : ¬ (0 : Int) ≤ (j : Int) - 1 - j := by omega
          have a0 : wr.cell? ⟨g, 0, none⟩ = some ev := Hg1.out.cell 0
          have af0 := Hg1.out.frozen 0
          have a2 : wr.cell? ⟨g, 2, none⟩ = some (.bool fx) := Hg1.out.cell 2
          have a1 : wr.cell? ⟨g, 1, none⟩ = some vp := Hg1.out.cell 1
          have af1 := Hg1.out.frozen 1
          have FW : ∀ w', Fr [g, gc, rc2] wr w' → Fr [g, gc, rc] w1 w' := fun w' h => by
            refine (HF.out.trans (Hf1.out.mono (S' := [g, gc, rc2]) (by simp)) ?_).trans h ?_ <;>
            · intro i hi
              simp at hi
              rcases hi with rfl | rfl | rfl
              · exact .inl (by simp)
              · exact .inl (by simp)
              · rcases Hrr.out with rfl | h
                · exact .inl (by simp)
                · exact .inr h
          have HFW := Lib.hid FW
          clear FW
          by_cases hz : R = 0
          · subst hz
            have hE : RES = some (pre2 ++ (bigB j (L2 : Int) ++ body)) := by rw [HE2.out, ← HR.out, if_pos rfl]
            have HE3 := Lib.hid hE
            clear hE
            have fin : ∀ n9, Q (.returned (.tuple #[])) ((wr.drewN n9).setCell ⟨g, 1, none⟩ (.slice (some ⟨rc2, 0, none⟩) N9 c9)) := by
              intro n9
              rw [HQ.out]
              refine ⟨rfl, w1, .inr ⟨pre, Z, body, rc, H.out, HFW.out _ (((Fr.refl _ wr).drewN n9).set_ (p := ⟨g, 1, none⟩) (.inl (by simp)) _), ?_⟩⟩
              rw [← HE.out, HE3.out]
              refine ⟨rc2, ⟨.slice (some ⟨rc2, 0, none⟩) N9 c9, ?_, ?_, rfl, ?_⟩, Hrr.out⟩
              · rw [← Hfx.out]; exact (Hg1.out.drewN n9).set_ 1 _
              · rw [← mid_end pre2 body Z2 j L2]
                exact Ho1.out.fr (S := [g]) (((Fr.refl [g] wr).drewN n9).set_ (p := ⟨g, 1, none⟩) (.inl (by simp)) _) (by simp [Value.ownBlock]; exact fun e => hgr9 e.symm)
              · refine fixes Hfix9.out ?_
                rw [List.length_append, List.length_append, bigB_len, ← Hb.out, Hp2.out]
                exact HN9.out
            have HFin := Lib.hid fin
            clear fin
            have hfc : fx = false ∨ fx = true := by cases fx; exact .inl rfl; exact .inr rfl
            rcases hfc with rfl | rfl
            · go_wp2_with fail
              go_quiet (fail)
              go_wp2_with fail
              go_end0
              exact HFin.out nq
            · obtain ⟨r, hr⟩ := Option.isSome_iff_exists.1 Hfx.out.symm
              obtain ⟨n7, c7, h7, rfl⟩ := Hvp.out r hr
              obtain ⟨c6, h6, _⟩ := Hfix9.out r hr
              obtain rfl : rc2 = r := by injection h6 with h6; injection h6 with h6; injection h6
              have h7' : (0 : Int) < (n7 : Int) := by omega
              have h8' : (0 : Int) < (N9 : Int) := by omega
              have h8 : 0 < N9 := by omega
              clear h6
              obtain ⟨i0, hi0, _⟩ := info_parts u8_info
              have hpp := fun (w : World) => Lib.run_neq_ptr_same (P := Try.prog) (tp := 141) w (⟨rc2, 0, none⟩ : Addr) (te := 5) (by kernel_rfl) hi0
              go_wp2_with fail
              go_quiet (fail)
              go_wp2_with fail
              go_end0
              exact HFin.out nq
          · have hne : (((R : Nat) : Int) != 0) = true := by simp; omega
            have hE : RES = none := by rw [HE2.out, ← HR.out, if_neg hz]
            have HE3 := Lib.hid hE
            clear hE hz
            go_wp2_with fail
            refine (new_err _ wr).mono ?_
            rintro e w9 ⟨u, rfl, f9⟩
            have G9 := f9.blk Hg1.out (by simp)
            have d0 : w9.cell? ⟨g, 0, none⟩ = some ev := G9.cell 0
            have df0 := G9.frozen 0
            have HG9 := Lib.hid G9
            have HF9 := Lib.hid f9
            clear G9 f9
            go_wp2_with fail
            first | go_end0 | refine bodyPost_ret (results_none rfl _ _ _) rfl ?_
            rw [HQ.out]
            refine ⟨rfl, w1, .inr ⟨pre, Z, body, rc, H.out, HFW.out _ ((HF9.out.mono (by simp)).set_ (p := ⟨g, 0, none⟩) (.inl (by simp)) _), ?_⟩⟩
            rw [← HE.out, HE3.out]
            exact ⟨_, _, _, _, _, _, _, _, HG9.out.set_ 0 _⟩
end Go.Proofs.Ytdnepnnkpaoaaaa
