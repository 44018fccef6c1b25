/- Contracts of the reference's Big, Header and Wrapped: a number in so many bytes; a tag and a length in DER; an element. -/
import Derived.Test.YtdnepnnkpaoaaaaSpec0
import Derived.Test.YtdnepnnkpaoaaaaBig
import Derived.Test.YtdnepnnkpaoaaaaRead3
import Derived.Outline
import Derived.Deep.DeepMust
import Derived.BigQuiet
import Derived.Deep.QuietTactic
namespace Go.Proofs.Ytdnepnnkpaoaaaa
open Go.RowKit
set_option linter.unusedVariables false

/-- append of bytes, under a guard that is met. -/
theorem wpList_append_bytes_w {P : Program} (w : World) {ops : Array Oper} {rest : List Oper} {o : Oper} {a : Act} {Q : Exit → Act → World → Prop} (hw : Region.wanted o (yielded ops a.tmps) = true) (s x : Operand) (t : TypeId)
    (ho : o.op = .call { callee := .builtin .append, args := #[s, x], argTypes := #[t, t] })
    (base : Nat) (e : TypeId) (i : TypeInfo) (z : Value) (ht : P.underlying t = some (.slice e)) (hi : P.info? e = some i) (hz : i.zero = some z)
    (hsize : i.size = 1) (hby : i.bytes = 1) (hzs : z.cells.size = 1)
    (v : Value) (xs : List Int) (hs : a.eval s = v) (hown : OwnB w base e v xs)
    (B : Nat) (A : Option Addr) (m c : Nat) (ys : List Int) (hm : ys.length = m) (hx : a.eval x = .slice A m c) (hr : BIn w B A ys)
    (h63 : xs.length + ys.length ≤ 70368744177664) (hbase : base ≤ w.heap.size)
    (h : ∀ A' c' w', OwnB w' base e (.slice A' (xs.length + m) c') (xs ++ ys) → w.grownBy w' v.ownBlock → ((Value.slice A' (xs.length + m) c').ownBlock = v.ownBlock ∨ (Value.slice A' (xs.length + m) c').ownBlock = some w.heap.size) → wpList P ops Q rest (a.put o.dst (.slice A' (xs.length + m) c')) w') : wpList P ops Q (o :: rest) a w :=
  wpList_step fun _ hK => by
    rw [if_pos hw]
    exact wp_append_bytes w s x t ho base e i z ht hi hz hsize hby hzs v xs hs hown B A m c ys hm hx hr h63 hbase fun A' c' w' h2 h3 h4 => hK _ _ (h A' c' w' h2 h3 h4)

/-- A slice of bytes of the call's own is handed back. -/
def OwnPost (w : World) (xs : List Int) (e : Ending) (w' : World) : Prop :=
  ∃ a c, e = .returned (.slice a xs.length c) ∧ xs.length ≤ c ∧ c ≤ maxLen ∧ BIn w' w'.heap.size a xs ∧ Below w.heap.size w w' ∧ OwnB w' w.heap.size 5 (.slice a xs.length c) xs
theorem ownPost {w w' : World} {v : Value} {xs : List Int} (h : OwnB w' w.heap.size 5 v xs) (hb : Below w.heap.size w w') : OwnPost w xs (.returned v) w' := by
  obtain ⟨a, c, rfl, h1, h2, _⟩ := h.form
  exact ⟨a, c, rfl, h1, h2, h.bin rfl, hb, h⟩

/-- A literal of bytes. -/
theorem OwnB.lit (w : World) (base : Nat) (xs : List Int) (cs : Array Value) (n : Nat) (hc : cs.toList = xs.map (Value.int .u8)) (hn : xs.length = n) (hb : base ≤ w.heap.size) (hl : n ≤ 1000) :
    OwnB (w.alloc (.cells cs 5)) base 5 (.slice (some ⟨w.heap.size, 0, none⟩) n n) xs := by
  subst hn
  unfold OwnB
  rw [← hc]
  have hs : cs.size = xs.length * 1 := by
    have := congrArg List.length hc
    simp at this
    omega
  exact World.ownsRow_lit w cs xs.length hb (by simp [maxLen]; omega) hs
theorem lit_bin (w : World) (xs : List Int) (cs : Array Value) (n : Nat) (hc : cs.toList = xs.map (Value.int .u8)) (hn : xs.length = n) (hl : n ≤ 1000) :
    BIn (w.alloc (.cells cs 5)) (w.heap.size + 1) (some ⟨w.heap.size, 0, none⟩) xs := by
  have := (OwnB.lit w w.heap.size xs cs n hc hn (Nat.le_refl _) hl).bin hn
  simpa using this

set_option maxRecDepth 100000 in
set_option maxHeartbeats 800000 in
theorem big_any (v : Int) (m : Nat) (w : World) (h0 : 0 ≤ v) (h1 : v < 18446744073709551616) (hm : m ≤ 8) :
    Calls Try.prog 62 #[.int .u64 v, .int .i64 m] w (OwnPost w (bigB m v)) := by
  obtain ⟨i0, hi0, hz0, hz1, hz2⟩ := info_parts u8_info
  have hv : Hid (0 ≤ v ∧ v < 18446744073709551616) := ⟨h0, h1⟩
  clear h0 h1
  go_enter Try.func62, Try.ntmps62
  go_wp2_with fail
  go_loopw [5, 6] (fun u i wr => ∃ j : Nat, j ≤ m ∧ i = .int .i64 ((m : Int) - 1 - j) ∧ OwnB wr w.heap.size 5 u (bigB j (v / 256 ^ (m - j))) ∧ Below w.heap.size w wr) (fun _ i _ => (intOf i + 1).toNat)
  case atStart => exact ⟨0, Nat.zero_le _, by go_num, World.ownsRow_made w #[] 0 (Nat.le_refl _) (by simp [maxLen]) rfl, (Below.refl _ _).alloc (Nat.le_refl _) _⟩
  case round =>
    obtain ⟨j, hj, rfl, hown, hbel⟩ := hrel
    obtain ⟨A, c, rfl, hc1, hc2, _⟩ := hown.form
    rw [bigB_len] at hown hc1 ⊢
    by_cases hlt : j < m
    · have hq0 : 0 ≤ (m : Int) - 1 - j := by omega
      have hq1 : (m : Int) - 1 - j ≤ 7 := by omega
      have Hown := Lib.hid hown
      have hb0 := hbel.size
      have hne := hown.lt
      have Hlt := Lib.hid hne
      obtain ⟨X, hX⟩ : ∃ X, X = v / 2 ^ (8 * (m - 1 - j)) % 256 := ⟨_, rfl⟩
      have HX := Lib.hid (show bigB (j + 1) (v / 256 ^ (m - (j + 1))) = bigB j (v / 256 ^ (m - j)) ++ [X] by
        rw [bigB_up v hlt, hX, Int.pow_mul, show m - 1 - j = m - (j + 1) by omega]; rfl)
      have hX' := Lib.hid hX
      have L := Lib.hid (show BIn (wr.alloc (.cells #[.int .u8 X] 5)) (wr.heap.size + 1) (some ⟨wr.heap.size, 0, none⟩) [X] from lit_bin wr [X] #[.int .u8 X] 1 rfl rfl (by omega))
      have O := Lib.hid (show OwnB (wr.alloc (.cells #[.int .u8 X] 5)) w.heap.size 5 (.slice A j c) (bigB j (v / 256 ^ (m - j))) from hown.alloc _)
      have C1 := Lib.hid (show (bigB j (v / 256 ^ (m - j))).length + [X].length ≤ 70368744177664 by rw [bigB_len]; simp; omega)
      clear hown hX hne
      rw [hX'.out] at L O
      go_wp2_with (at_builtin; go_must (refine wpList_append_bytes _ rfl (.tmp 14) (.tmp 20) _ rfl w.heap.size 5 i0 _ Try.underlying22 hi0 hz0 hz1 hz2 rfl (.slice A j c) _ rfl O.out _ _ 1 1 _ rfl rfl L.out (by first | exact C1.out | (rw [← hX'.out]; exact C1.out)) (by simp; omega) ?_; intro A' c' w1 hown hg1 hat))
      go_roundw
      case rel =>
        have hbl : (bigB j (v / 256 ^ (m - j))).length = j := bigB_len _ _
        rw [hbl, ← hX'.out, ← HX.out] at hown
        refine ⟨j + 1, by omega, by go_num, ?_, ?_⟩
        · rw [hbl]; exact hown
        · exact (hbel.alloc hb0 _).grown hg1 (by simp; omega) (fun k hk => (Hlt.out k hk).1)
      case measure => simp [intOf]; omega
    · have : j = m := by omega
      subst this
      go_wp2
      go_ret
      have : bigB j (v / 256 ^ (j - j)) = bigB j v := by simp
      rw [this] at hown
      refine ownPost ?_ hbel
      exact hown

/-- The digits of a length, as a loop from the lowest on prepends them. -/
theorem lenB_of {n k : Nat} (h0 : 128 ≤ n) (hn : n < 16777216) (h1 : n / 256 ^ k = 0) (h2 : k = 0 ∨ 0 < n / 256 ^ (k - 1)) : k = lenB n := by
  unfold lenB
  have hk : k ≤ 3 := by
    rcases Nat.lt_or_ge 3 k with h | h
    · rcases h2 with h2 | h2
      · omega
      · have : 256 ^ 3 ≤ 256 ^ (k - 1) := Nat.pow_le_pow_right (by omega) (by omega)
        have h3 : n < 256 ^ (k - 1) := by omega
        rw [Nat.div_eq_of_lt h3] at h2
        omega
    · exact h
  have : k = 0 ∨ k = 1 ∨ k = 2 ∨ k = 3 := by omega
  rcases this with rfl | rfl | rfl | rfl <;> simp only [Nat.reducePow, Nat.reduceSub] at h1 h2 <;> (split <;> (try split)) <;> omega

set_option maxRecDepth 100000 in
set_option maxHeartbeats 800000 in
theorem header_any (t : Int) (n : Nat) (w : World) (h0 : 0 ≤ t) (h1 : t < 256) (hn : n < 16777216) :
    Calls Try.prog 109 #[.int .i64 t, .int .i64 n] w (OwnPost w (derHdr t n)) := by
  obtain ⟨i0, hi0, hz0, hz1, hz2⟩ := info_parts u8_info
  by_cases hs : n < 128
  · have E := Lib.hid (show derHdr t n = [t, (n : Int)] by unfold derHdr; rw [if_pos hs])
    go_enter Try.func109, Try.ntmps109
    go_wp2_with fail
    go_ret
    rw [E.out]
    exact ownPost (OwnB.lit w w.heap.size [t, (n : Int)] #[.int .u8 t, .int .u8 n] 2 rfl rfl (Nat.le_refl _) (by omega)) ((Below.refl _ _).alloc (Nat.le_refl _) _)
  · have E := Lib.hid (show derHdr t n = t :: (128 + (lenB n : Int)) :: bigB (lenB n) n by unfold derHdr; rw [if_neg hs])
    have Hs := Lib.hid hs
    clear hs
    go_enter Try.func109, Try.ntmps109
    have hs : ¬ n < 128 := Hs.out
    go_wp2_with fail
    clear hs
    go_loopw [5, 6] (fun u i wr => ∃ k : Nat, k ≤ 3 ∧ i = .int .i64 ((n / 256 ^ k : Nat) : Int) ∧ (k = 0 ∨ 0 < n / 256 ^ (k - 1)) ∧ OwnB wr w.heap.size 5 u (bigB k n) ∧ Below w.heap.size w wr) (fun _ i _ => (intOf i).toNat)
    case atStart => exact ⟨0, by omega, by simp, .inl rfl, World.ownsRow_made w #[] 0 (Nat.le_refl _) (by simp [maxLen]) rfl, (Below.refl _ _).alloc (Nat.le_refl _) _⟩
    case round =>
      obtain ⟨k, hk, rfl, hpos, hown, hbel⟩ := hrel
      obtain ⟨A, c, rfl, hc1, hc2, _⟩ := hown.form
      rw [bigB_len] at hown hc1 ⊢
      have Hown := Lib.hid hown
      have hb0 := hbel.size
      have Hlt := Lib.hid hown.lt
      have Hpos := Lib.hid hpos
      have Hk := Lib.hid (show n / 256 ^ (k + 1) = n / 256 ^ k / 256 by rw [Nat.pow_succ, Nat.div_div_eq_div_mul])
      have Hn := Lib.hid hn
      have Hlen := Lib.hid (bigB_len k n)
      have Hcons := Lib.hid (show bigB (k + 1) n = [((n / 256 ^ k : Nat) : Int) % 256] ++ bigB k n by rw [bigB_cons]; simp)
      have Hkk := Lib.hid (fun h => @lenB_of n k (by have := Hs.out; omega) hn h hpos)
      have hq : n / 256 ^ k ≤ 16777215 := Nat.le_trans (Nat.div_le_self _ _) (by omega)
      have Hk3 := Lib.hid (show 0 < n / 256 ^ k → k + 1 ≤ 3 by
        intro h
        have : k = 0 ∨ k = 1 ∨ k = 2 ∨ k = 3 := by omega
        rcases this with rfl | rfl | rfl | rfl <;> simp only [Nat.reducePow] at h <;> omega)
      obtain ⟨q, hq'⟩ : ∃ q, q = n / 256 ^ k := ⟨_, rfl⟩
      rw [← hq'] at hq Hk Hcons Hkk Hk3 ⊢
      have Hq := Lib.hid hq'
      obtain ⟨D, hD⟩ : ∃ D, D = bigB k (n : Int) := ⟨_, rfl⟩
      rw [← hD] at Hown Hcons Hlen
      have HD := Lib.hid hD
      clear hown hpos hn hq' hD hb0
      by_cases hgt : 0 < q
      · have hgt' : (0 : Int) < (q : Int) := by omega
        have L := Lib.hid (show OwnB (wr.alloc (.cells #[.int .u8 ((q : Int) % 256)] 5)) w.heap.size 5 (.slice (some ⟨wr.heap.size, 0, none⟩) 1 1) [(q : Int) % 256] from OwnB.lit wr w.heap.size [(q : Int) % 256] #[.int .u8 ((q : Int) % 256)] 1 rfl rfl hbel.size (by omega))
        have S := Lib.hid (show BIn (wr.alloc (.cells #[.int .u8 ((q : Int) % 256)] 5)) wr.heap.size A D from ((Fr.refl [] wr).alloc _).bin (Hown.out.bin Hlen.out) (by simp))
        have C1 := Lib.hid (show [(q : Int) % 256].length + D.length ≤ 70368744177664 by rw [Hlen.out]; simp; omega)
        go_wp2_with (at_builtin; go_must (refine wpList_append_bytes _ rfl (.tmp 23) (.tmp 24) _ rfl w.heap.size 5 i0 _ Try.underlying22 hi0 hz0 hz1 hz2 rfl (.slice (some ⟨wr.heap.size, 0, none⟩) 1 1) _ rfl L.out _ A k c D Hlen.out rfl S.out C1.out (by have := hbel.size; simp; omega) ?_; intro A' c' w1 hown hg1 hat))
        go_roundw
        case rel =>
          rw [← Hcons.out] at hown
          refine ⟨k + 1, Hk3.out hgt, ?_, .inr ?_, ?_, ?_⟩
          · rw [Hk.out]; rfl
          · simpa [← Hq.out] using hgt
          · exact hown
          · exact (hbel.alloc hbel.size _).grown hg1 (by have := hbel.size; simp; omega) (fun k hk => by simp [Value.ownBlock] at hk; have := hbel.size; omega)
        case measure => simp [intOf]; omega
      · obtain rfl : q = 0 := by omega
        have hk' := Hkk.out rfl
        have Hk' := Lib.hid hk'
        have L := Lib.hid (show OwnB (wr.alloc (.cells #[.int .u8 t, .int .u8 (128 + (k : Int))] 5)) w.heap.size 5 (.slice (some ⟨wr.heap.size, 0, none⟩) 2 2) [t, 128 + (k : Int)] from OwnB.lit wr w.heap.size [t, 128 + (k : Int)] #[.int .u8 t, .int .u8 (128 + (k : Int))] 2 rfl rfl hbel.size (by omega))
        have S := Lib.hid (show BIn (wr.alloc (.cells #[.int .u8 t, .int .u8 (128 + (k : Int))] 5)) wr.heap.size A D from ((Fr.refl [] wr).alloc _).bin (Hown.out.bin Hlen.out) (by simp))
        have C1 := Lib.hid (show [t, 128 + (k : Int)].length + D.length ≤ 70368744177664 by rw [Hlen.out]; simp; omega)
        have hz : ¬ (0 : Int) < ((0 : Nat) : Int) := by omega
        clear hk'
        go_wp2_with (at_builtin; go_must (refine wpList_append_bytes _ rfl (.tmp 32) (.tmp 33) _ rfl w.heap.size 5 i0 _ Try.underlying22 hi0 hz0 hz1 hz2 rfl (.slice (some ⟨wr.heap.size, 0, none⟩) 2 2) _ rfl L.out _ A k c D Hlen.out rfl S.out C1.out (by have := hbel.size; simp; omega) ?_; intro A' c' w1 hown hg1 hat))
        go_ret
        refine ownPost (xs := derHdr t n) ?_ ((hbel.alloc hbel.size _).grown hg1 (by have := hbel.size; simp; omega) (fun k hk => by simp [Value.ownBlock] at hk; have := hbel.size; omega))
        rw [E.out, ← Hk'.out, ← HD.out]
        exact hown

set_option maxHeartbeats 800000 in
theorem wrapped_any (t : Int) (a : Option Addr) (n c : Nat) (ys : List Int) (w : World) (h0 : 0 ≤ t) (h1 : t < 256) (hn : n < 16777216) (hy : ys.length = n) (hb : BIn w w.heap.size a ys) :
    Calls Try.prog 95 #[.int .i64 t, .slice a n c] w (OwnPost w (derWrap t ys)) := by
  obtain ⟨i0, hi0, hz0, hz1, hz2⟩ := info_parts u8_info
  have H := Lib.hid (header_any t n w h0 h1 hn)
  have Hy := Lib.hid hy
  have HL := Lib.hid (derHdr_len t n)
  have E := Lib.hid (show derWrap t ys = derHdr t n ++ ys by unfold derWrap; rw [hy])
  generalize derHdr t n = D at *
  clear hy
  go_enter Try.func95, Try.ntmps95
  go_wp2_with fail
  refine H.out.mono ?_
  rintro e w1 ⟨a1, c1, rfl, h1, h2, h3, h4, h5⟩
  have S := Lib.hid ((hb.below h4).lt)
  have H5 := Lib.hid h5
  have C1 := Lib.hid (show D.length + ys.length ≤ 70368744177664 by have := HL.out; have := Hy.out; omega)
  clear h3 h5
  go_wp2_with (at_builtin; go_must (refine wpList_append_bytes _ rfl (.tmp 8) (.tmp 9) _ rfl w.heap.size 5 i0 _ Try.underlying22 hi0 hz0 hz1 hz2 rfl (.slice a1 D.length c1) _ rfl H5.out _ a n c ys Hy.out rfl S.out C1.out h4.size ?_; intro A' c' w2 hown hg1 hat))
  go_ret
  refine ownPost (xs := derWrap t ys) ?_ (h4.grown hg1 h4.size (fun k hk => (H5.out.lt k hk).1))
  rw [E.out]
  exact hown
end Go.Proofs.Ytdnepnnkpaoaaaa
