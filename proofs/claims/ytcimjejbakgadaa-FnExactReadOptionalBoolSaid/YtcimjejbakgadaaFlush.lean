/- The contract of (*Builder).flushChild, where the builder's child has no child and no error. -/
import Derived.Test.YtcimjejbakgadaaCont
import Derived.IntWalk
namespace Go.Proofs.Ytcimjejbakgadaa
open Go.RowKit
set_option linter.unusedVariables false

/-- The cells of a builder that is not fixed, and has no error, with a child. -/
abbrev pCs (v : Value) (gc : Nat) (off pl : Int) (pa : Bool) (ic : Value) : Array Value := #[.nilIface, v, .bool false, .pointer (some ⟨gc, 0, none⟩), .int .i64 off, .int .i64 pl, .bool pa, ic]

/-- A byte of the row is stored. -/
theorem OwnB.stored {w : World} {base e r n c : Nat} {xs : List Int} (h : OwnB w base e (.slice (some ⟨r, 0, none⟩) n c) xs) (hn : xs.length = n) (j : Nat) (x : Int) :
    OwnB (w.setCell ⟨r, j, none⟩ (.int .u8 x)) base e (.slice (some ⟨r, 0, none⟩) n c) (xs.set j x) := by
  subst hn
  unfold OwnB at h ⊢
  have := (World.ownsRow.stored h j (.int .u8 x)).1
  rw [List.length_set, List.map_set]
  exact this
theorem OwnB.at_ {w : World} {base e r n c : Nat} {xs : List Int} (h : OwnB w base e (.slice (some ⟨r, 0, none⟩) n c) xs) (hn : xs.length = n) {j : Nat} (hj : j < n) :
    w.cell? ⟨r, j, none⟩ = some (.int .u8 (xs.getD j 0)) ∧ w.frozen? ⟨r, j, none⟩ = false := by
  subst hn
  unfold OwnB at h
  refine ⟨?_, World.ownsRow.frozenAt h j⟩
  rw [World.ownsRow.cellAt h j (by omega), List.getElem?_map, List.getD_eq_getElem?_getD, List.getElem?_eq_getElem hj]
  rfl
theorem OwnB.row {w : World} {base e r : Nat} {v : Value} {xs : List Int} (h : OwnB w base e v xs) (hr : v.ownBlock = some r) : ∃ c, v = .slice (some ⟨r, 0, none⟩) xs.length c ∧ xs.length ≤ c ∧ c ≤ maxLen := by
  rcases h.2 with ⟨rfl, _⟩ | ⟨g, cap, cur, rfl, _, _, h1, h2, _⟩
  · simp [Value.ownBlock] at hr
  · have : g = r := by simpa [Value.ownBlock] using hr
    subst this
    exact ⟨cap, rfl, h1, h2⟩

/-- 's[k:]' of a row, not at its capacity's end. -/
theorem sl_at (r n c : Nat) (k : Int) (m : Nat) (hk : k = m) (hn : m ≤ n) (hc : m < c) (w : World) :
    (Instr.sliceAt 24 (.slice (some ⟨r, 0, none⟩) n c) (some (.int .i64 k)) none none).run Try.prog w = .ok (.slice (some ⟨r, m, none⟩) (n - m) (c - m)) w := by
  rw [sl_from (some ⟨r, 0, none⟩) n c k m hk hn w]
  unfold cutA
  rw [if_neg (by omega)]
  simp [add_plain']

theorem Fr.setRow {S : List Nat} {w w' : World} (h : Fr S w w') {r : Nat} (hr : r ∈ S ∨ w.heap.size ≤ r) (cs : Array Value) : Fr S w (w'.setRow r cs) :=
  ⟨h.os, h.tape, h.output, by simpa [World.setRow] using h.size, fun k hk hn => (setRow_other w' r k cs (fun e => by subst e; rcases hr with h1 | h1; exact hn h1; omega)).trans (h.block k hk hn)⟩
theorem OwnB.cur {w : World} {base e r n c : Nat} {xs : List Int} (h : OwnB w base e (.slice (some ⟨r, 0, none⟩) n c) xs) (hn : xs.length = n) :
    ∃ cur : List Value, w.heap[r]? = some (.cells cur.toArray e (0, 0)) ∧ cur.length = c ∧ cur.take n = xs.map (Value.int .u8) ∧ base ≤ r ∧ n ≤ c ∧ c ≤ maxLen := by
  subst hn
  rcases h.2 with ⟨h', _⟩ | ⟨g, cap, cur, h', hb, hg, h1, h2, h3, h4⟩
  · simp at h'
  · simp only [Value.slice.injEq, Option.some.injEq, Addr.mk.injEq, and_true, true_and] at h'
    obtain ⟨rfl, rfl⟩ := h'
    exact ⟨cur.toList, by simpa using hg, by simpa using h3, by simpa using h4, hb, h1, h2⟩
theorem OwnB.setRow {w : World} {base e r n c off : Nat} {xs ys : List Int} {cur : List Value} (hb : base ≤ r) (hnc : n ≤ c) (hm : c ≤ maxLen) (hn : xs.length = n)
    (hcur : w.heap[r]? = some (.cells cur.toArray e (0, 0))) (hcl : cur.length = c) (hct : cur.take n = xs.map (Value.int .u8)) (hoff : off + ys.length = n) :
    OwnB (w.setRow r (cur.take off ++ (ys.map (Value.int .u8) ++ cur.drop (off + (ys.map (Value.int .u8)).length))).toArray) base e (.slice (some ⟨r, 0, none⟩) n c) (xs.take off ++ ys) := by
  have hl : (xs.take off ++ ys).length = n := by simp; omega
  unfold OwnB
  rw [hl]
  refine ⟨by simp; omega, .inr ⟨r, c, _, rfl, hb, setRow_heap w r _ _ e _ hcur, hnc, hm, by simp; omega, ?_⟩⟩
  have e1 : cur.take off = (xs.take off).map (Value.int .u8) := by
    rw [List.map_take, ← hct, List.take_take, Nat.min_eq_left (by omega)]
  simp only [Nat.mul_one]
  rw [List.length_map, e1, ← List.append_assoc, ← List.map_append]
  rw [List.take_append_of_le_length (by simp; omega), List.take_of_length_le (by simp; omega)]

/-- The row while the length is written: its last bytes stand. -/
def Mid (pre body Z : List Int) (k j L : Nat) : List Int := pre ++ (Z.take (k - j) ++ (bigB j L ++ body))
theorem mid_zero (pre body : List Int) {Z : List Int} {k : Nat} (L : Nat) (hZ : Z.length = k) : Mid pre body Z k 0 L = pre ++ (Z ++ body) := by unfold Mid; rw [Nat.sub_zero, List.take_of_length_le (by omega)]; rfl
theorem mid_end (pre body Z : List Int) (k L : Nat) : Mid pre body Z k k L = pre ++ (bigB k L ++ body) := by unfold Mid; rw [Nat.sub_self]; rfl
theorem mid_len (pre body : List Int) {Z : List Int} {k j : Nat} (L : Nat) (hZ : Z.length = k) (h : j ≤ k) : (Mid pre body Z k j L).length = pre.length + (k + body.length) := by
  unfold Mid
  simp only [List.length_append, List.length_take, bigB_len]
  omega
theorem mid_set (pre body : List Int) {Z : List Int} {k j : Nat} (L : Nat) (hZ : Z.length = k) (h : j < k) : (Mid pre body Z k j L).set (pre.length + (k - 1 - j)) (((L / 256 ^ j : Nat) : Int) % 256) = Mid pre body Z k (j + 1) L := by
  unfold Mid
  rw [List.set_append_right _ _ (by omega), show pre.length + (k - 1 - j) - pre.length = k - 1 - j by omega]
  obtain ⟨m, hm⟩ : ∃ m, k - j = m + 1 := ⟨k - j - 1, by omega⟩
  have hml : m < Z.length := by omega
  rw [hm, show k - 1 - j = m by omega, show k - (j + 1) = m by omega, List.take_succ_eq_append_getElem hml, List.append_assoc, List.set_append_right _ _ (by simp; omega)]
  simp only [List.length_take, List.cons_append, List.nil_append]
  rw [show m - min m Z.length = 0 by omega, List.set_cons_zero, bigB_cons]
  simp

end Go.Proofs.Ytcimjejbakgadaa
