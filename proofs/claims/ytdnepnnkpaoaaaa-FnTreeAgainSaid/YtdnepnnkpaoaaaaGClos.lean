/- The contracts of the continuations of the ASN.1 builders. (Turned from the printed text.) -/
import Derived.Test.YtdnepnnkpaoaaaaGLen
import Derived.Test.YtdnepnnkpaoaaaaMB
namespace Go.Proofs.Ytdnepnnkpaoaaaa
open Go.RowKit
set_option linter.unusedVariables false

/-- A frame leaves bytes whose block is none of its own. -/
theorem Fr.bin' {S : List Nat} {w w' : World} {B : Nat} {a : Option Addr} {xs : List Int} (h : Fr S w w') (k : BIn w B a xs) (hs : ∀ b, a = some b → b.block ∉ S) : BIn w' B a xs := fun hn => by
  obtain ⟨b, o, e, hb, hc⟩ := k hn
  subst e
  refine ⟨b, o, rfl, hb, fun i hi => ?_⟩
  have hlt := World.block_lt_of_cell? w _ (hc i hi)
  exact (World.cell?_of_block (w := w) (h.block b hlt (hs _ rfl))).trans (hc i hi)
theorem Fr.iin' {S : List Nat} {w w' : World} {B : Nat} {a : Option Addr} {xs : List Int} (h : Fr S w w') (k : IIn w B a xs) (hs : ∀ b, a = some b → b.block ∉ S) : IIn w' B a xs := fun hn => by
  obtain ⟨b, o, e, hb, hc⟩ := k hn
  subst e
  refine ⟨b, o, rfl, hb, fun i hi => ?_⟩
  have hlt := World.block_lt_of_cell? w _ (hc i hi)
  exact (World.cell?_of_block (w := w) (h.block b hlt (hs _ rfl))).trans (hc i hi)

set_option maxRecDepth 100000 in
set_option maxHeartbeats 800000 in
theorem clos_add (K : Kd) (base gc rc p : Nat) (xs ys : List Int) (off pl : Int) (pa : Bool) (ic : Value) (a : Option Addr) (n c : Nat) (w : World)
    (hg : Bld K w base gc xs off pl pa ic (some rc)) (hp : Blk w p 22 #[.slice a n c]) (hpc : p ≠ gc) (hpr : p ≠ rc) (hn : ys.length = n) (hy : BIn w w.heap.size a ys) (hya : ∀ b, a = some b → b.block ≠ gc ∧ b.block ≠ rc) (hl : xs.length + n ≤ K.lim) (hb : base ≤ w.heap.size) :
    Calls Try.prog 41 #[.pointer (some ⟨gc, 0, none⟩), .pointer (some ⟨p, 0, none⟩)] w (AddPost K base gc (xs ++ ys) off pl pa ic (some rc) w) := by
  have hKok := K.ok
  have p0 := hp.one
  have Hn := Lib.hid hn
  have Hy := Lib.hid hy
  have Hg := Lib.hid hg
  have Hp := Lib.hid hp
  clear hp hn hy hg
  go_enter Try.func41, Try.ntmps41
  go_wp2_with fail
  refine (copied_any a n c ys w Hn.out Hy.out.lt (by omega)).mono ?_
  rintro e w1 ⟨a1, c1, rfl, p1, p2, p3, p4, p5, p6⟩
  have F1 := Fr.of_below p5 []
  have HF := Lib.hid F1
  have G1 := Lib.hid (Hg.out.keep F1)
  clear F1 p4 p6
  go_wp2_with fail
  refine (addBytes_any K base gc xs ys off pl pa ic (some rc) a1 n c1 w1 G1.out Hn.out p3 (by omega) (Nat.le_trans hb p5.size)).mono ?_
  intro e w2 hq
  have hq' := Lib.hid (hq.from_ HF.out)
  obtain ⟨rfl, _⟩ := hq
  go_wp2
  go_end0
  exact hq'.out

set_option maxRecDepth 100000 in
set_option maxHeartbeats 800000 in
theorem clos_oct (K : Kd) (base gc rc p : Nat) (xs ys : List Int) (off pl : Int) (pa : Bool) (ic : Value) (a : Option Addr) (n c : Nat) (w : World)
    (hg : Bld K w base gc xs off pl pa ic (some rc)) (hp : Blk w p 22 #[.slice a n c]) (hpc : p ≠ gc) (hpr : p ≠ rc) (hn : ys.length = n) (hy : BIn w w.heap.size a ys) (hya : ∀ b, a = some b → b.block ≠ gc ∧ b.block ≠ rc) (hl : xs.length + n ≤ K.lim) (hb : base ≤ w.heap.size) :
    Calls Try.prog 103 #[.pointer (some ⟨gc, 0, none⟩), .pointer (some ⟨p, 0, none⟩)] w (AddPost K base gc (xs ++ ys) off pl pa ic (some rc) w) := by
  have p0 := hp.one
  have Hn := Lib.hid hn
  have Hy := Lib.hid hy
  have Hg := Lib.hid hg
  have Hp := Lib.hid hp
  clear hp hn hy hg
  go_enter Try.func103, Try.ntmps103
  go_wp2_with fail
  refine (addBytes_any K base gc xs ys off pl pa ic (some rc) a n c w Hg.out Hn.out Hy.out.lt (by omega) hb).mono ?_
  intro e w2 hq
  have hq' := Lib.hid hq
  obtain ⟨rfl, _⟩ := hq
  go_wp2
  go_end0
  exact hq'.out

set_option maxRecDepth 100000 in
set_option maxHeartbeats 800000 in
theorem clos_bits (K : Kd) (base gc rc p : Nat) (xs ys : List Int) (off pl : Int) (pa : Bool) (ic : Value) (a : Option Addr) (n c : Nat) (w : World)
    (hg : Bld K w base gc xs off pl pa ic (some rc)) (hp : Blk w p 22 #[.slice a n c]) (hpc : p ≠ gc) (hpr : p ≠ rc) (hn : ys.length = n) (hy : BIn w w.heap.size a ys) (hya : ∀ b, a = some b → b.block ≠ gc ∧ b.block ≠ rc) (hl : xs.length + (n + 1) ≤ K.lim) (hb : base ≤ w.heap.size) :
    Calls Try.prog 104 #[.pointer (some ⟨gc, 0, none⟩), .pointer (some ⟨p, 0, none⟩)] w (AddPost K base gc (xs ++ (0 :: ys)) off pl pa ic (some rc) w) := by
  have p0 := hp.one
  have Hn := Lib.hid hn
  have Hy := Lib.hid hy
  have Hg := Lib.hid hg
  have Hp := Lib.hid hp
  clear hp hn hy hg
  go_enter Try.func104, Try.ntmps104
  go_wp2_with fail
  refine (addU8_any K base gc xs off pl pa ic (some rc) 0 w Hg.out (by omega) hb).mono ?_
  rintro e w1 ⟨rfl, rb1, b1, f1, h1⟩
  have q0 := (f1.blk Hp.out (by simp; exact ⟨hpc, hpr⟩)).one
  have Y1 : BIn w1 w1.heap.size a ys := (f1.bin' Hy.out (fun b hb => by simp; exact hya b hb)).lt
  have G1 := Lib.hid b1
  have HF := Lib.hid f1
  have H1 := Lib.hid h1
  have hsz := f1.size
  clear b1 f1 h1 p0
  go_wp2_with fail
  refine (addBytes_any K base gc (xs ++ [0]) ys off pl pa ic rb1 a n c w1 G1.out Hn.out Y1 (by simp; omega) (Nat.le_trans hb hsz)).mono ?_
  rintro e w2 ⟨rfl, rb2, b2, f2, h2⟩
  have B2 := Lib.hid b2
  have HF2 := Lib.hid f2
  have H2 := Lib.hid h2
  clear b2 f2 h2 Y1
  go_wp2
  go_end0
  rw [show xs ++ 0 :: ys = xs ++ [0] ++ ys by simp]
  refine ⟨rfl, rb2, B2.out, HF.out.trans HF2.out (fun i hi => ?_), ?_⟩
  · rw [List.mem_cons] at hi
    rcases hi with rfl | hi
    · exact .inl (by simp)
    · rcases H1.out with h | ⟨k, h, hk⟩
      · rw [h] at hi; exact .inl (List.mem_cons_of_mem _ hi)
      · rw [h] at hi; simp at hi; subst hi; exact .inr hk
  · rcases H2.out with h | ⟨k, h, hk⟩
    · rw [h]; exact H1.out
    · exact .inr ⟨k, h, Nat.le_trans hsz hk⟩

/-- A truth in a byte. -/
def bByte (v : Bool) : Int := if v then 255 else 0
set_option maxHeartbeats 800000 in
theorem clos_bool (K : Kd) (base gc rc p : Nat) (xs : List Int) (off pl : Int) (pa : Bool) (ic : Value) (v : Bool) (w : World)
    (hg : Bld K w base gc xs off pl pa ic (some rc)) (hp : Blk w p 4 #[.bool v]) (hl : xs.length + 1 ≤ K.lim) (hb : base ≤ w.heap.size) :
    Calls Try.prog 100 #[.pointer (some ⟨gc, 0, none⟩), .pointer (some ⟨p, 0, none⟩)] w (AddPost K base gc (xs ++ [bByte v]) off pl pa ic (some rc) w) := by
  have p0 := hp.one
  have A := Lib.hid (fun x => addU8_any K base gc xs off pl pa ic (some rc) x w hg (by omega) hb)
  clear hg hp
  cases v
  · rw [show bByte false = 0 from rfl]
    go_enter Try.func100, Try.ntmps100
    go_wp2_with fail
    refine (A.out 0).mono ?_
    intro e w2 hq
    have hq' := Lib.hid hq
    obtain ⟨rfl, _⟩ := hq
    go_wp2
    go_end0
    exact hq'.out
  · rw [show bByte true = 255 from rfl]
    go_enter Try.func100, Try.ntmps100
    go_wp2_with fail
    refine (A.out 255).mono ?_
    intro e w2 hq
    have hq' := Lib.hid hq
    obtain ⟨rfl, _⟩ := hq
    go_wp2
    go_end0
    exact hq'.out

theorem and_i64 {x : Int} (h0 : -9223372036854775808 ≤ x) (h1 : x ≤ 9223372036854775807) : bits .and .i64 x 255 = x % 256 := by
  show IntKind.i64.wrap ((BitVec.ofInt 64 x &&& BitVec.ofInt 64 255).toNat : Int) = _
  have e1 : (BitVec.ofInt 64 x).toNat = (x % 18446744073709551616).toNat := by simp [BitVec.toNat_ofInt]
  have e2 : (BitVec.ofInt 64 255).toNat = 2 ^ 8 - 1 := by rfl
  rw [BitVec.toNat_and, e1, e2, Nat.and_two_pow_sub_one_eq_mod, IntKind.wrap_i64]
  omega
theorem byte_i64 {v : Int} (h0 : -9223372036854775808 ≤ v) (h1 : v ≤ 9223372036854775807) {q : Nat} (hq : 1 ≤ q) (hq9 : q ≤ 9) : bits .and .i64 (v / 2 ^ ((q - 1) * 8)) 255 % 256 = v / 256 ^ (q - 1) % 256 := by
  have : q = 1 ∨ q = 2 ∨ q = 3 ∨ q = 4 ∨ q = 5 ∨ q = 6 ∨ q = 7 ∨ q = 8 ∨ q = 9 := by omega
  rcases this with rfl | rfl | rfl | rfl | rfl | rfl | rfl | rfl | rfl <;> simp only [Nat.reduceSub, Nat.reduceMul, Int.reducePow] <;> rw [and_i64 (by omega) (by omega)] <;> omega
set_option maxRecDepth 100000 in
set_option maxHeartbeats 1600000 in
theorem clos_int (K : Kd) (base gc rc p : Nat) (xs : List Int) (off pl : Int) (pa : Bool) (ic : Value) (v : Int) (w : World)
    (hg : Bld K w base gc xs off pl pa ic (some rc)) (hp : Blk w p 2 #[.int .i64 v]) (hpc : p ≠ gc) (hpr : p ≠ rc) (hl : xs.length + intLen v ≤ K.lim) (hb : base ≤ w.heap.size) (h0 : -9223372036854775808 ≤ v) (h1 : v ≤ 9223372036854775807) :
    Calls Try.prog 112 #[.pointer (some ⟨gc, 0, none⟩), .pointer (some ⟨p, 0, none⟩)] w (AddPost K base gc (xs ++ bigB (intLen v) v) off pl pa ic (some rc) w) := by
  have p0 := hp.one
  have Hg := Lib.hid hg
  have Hp := Lib.hid hp
  have H0 := Lib.hid h0
  have H1 := Lib.hid h1
  have hL := intLen_bd v
  obtain ⟨L, hL'⟩ : ∃ L, L = intLen v := ⟨_, rfl⟩
  rw [← hL'] at hL hl ⊢
  have HL := Lib.hid hL'
  clear hg hp h0 h1 hL'
  go_enter Try.func112, Try.ntmps112
  go_wp2_with fail
  go_loop [3, 4] (fun l i => ∃ (k : Nat) (u : Int), 1 ≤ k ∧ k + intLen u = L + 1 ∧ Hid ((-9223372036854775808 ≤ u ∧ u ≤ 9223372036854775807)) ∧ l = .int .i64 k ∧ i = .int .i64 u) (fun _ i => intLen (intOf i))
  case atStart => exact ⟨1, v, by omega, by rw [HL.out]; omega, ⟨H0.out, H1.out⟩, rfl, rfl⟩
  case round =>
    obtain ⟨k, u, hk1, hk2, hu, rfl, rfl⟩ := hrel
    have hlu := intLen_bd u
    by_cases hin : -128 ≤ u ∧ u ≤ 127
    · have hu1 : intLen u = 1 := intLen_in hin
      have hkL : k = L := by omega
      subst hkL
      have t1 : decide ((128 : Int) ≤ u) = false := by rw [decide_eq_false_iff_not]; omega
      have t2 : decide (u < -128) = false := by rw [decide_eq_false_iff_not]; omega
      clear hin hu1 hk2 hlu hk1
      go_wp2_with fail
      go_loopw [3] (fun l wr => ∃ (q rb' : Nat), q ≤ k ∧ l = .int .i64 q ∧ Bld K wr base gc (xs ++ bigB (k - q) (v / 256 ^ q)) off pl pa ic (some rb') ∧ Fr [gc, rc] w wr ∧ (rb' = rc ∨ w.heap.size ≤ rb')) (fun l _ => (intOf l).toNat)
      case atStart => exact ⟨k, rc, Nat.le_refl _, rfl, by rw [Nat.sub_self, bigB_zero, List.append_nil]; exact Hg.out, Fr.refl _ _, .inl rfl⟩
      case round =>
        obtain ⟨q, rb', hq, rfl, hb1, hfr, hrb⟩ := hrel
        have r0 := (hfr.blk Hp.out (by simp; exact ⟨hpc, hpr⟩)).one
        have Hb1 := Lib.hid hb1
        have Hf1 := Lib.hid hfr
        have Hrb := Lib.hid hrb
        have hk9 : k ≤ 9 := by omega
        clear hb1 hfr hrb
        by_cases hz : 0 < q
        · have hz' : (0 : Int) < (q : Int) := by omega
          have E := Lib.hid (byte_i64 (q := q) H0.out H1.out (by omega) (by omega))
          have S := Lib.hid (show bigB (k - (q - 1)) (v / 256 ^ (q - 1)) = bigB (k - q) (v / 256 ^ q) ++ [v / 256 ^ (q - 1) % 256] by
            have := bigB_up (k := k) (j := k - q) v (by omega)
            rw [show k - (k - q + 1) = q - 1 by omega, show k - (k - q) = q by omega, show k - q + 1 = k - (q - 1) by omega] at this
            exact this)
          have hsz := Lib.hid Hf1.out.size
          go_wp2_with fail
          rw [E.out]
          refine (addU8_any K base gc (xs ++ bigB (k - q) (v / 256 ^ q)) off pl pa ic (some rb') _ wr Hb1.out (by rw [List.length_append, bigB_len]; omega) (Nat.le_trans hb hsz.out)).mono ?_
          rintro e w2 ⟨rfl, rb2, b2, f2, h2⟩
          rw [List.append_assoc, ← S.out] at b2
          have B2 := Lib.hid b2
          have F2 := Lib.hid f2
          have H2 := Lib.hid h2
          clear b2 f2 h2
          go_wp2_with fail
          go_roundw
          case rel =>
            have hr2 : ∃ r2, rb2 = some r2 ∧ (r2 = rc ∨ w.heap.size ≤ r2) := by
              rcases H2.out with h | ⟨x, h, hx⟩
              · exact ⟨rb', h, Hrb.out⟩
              · exact ⟨x, h, .inr (Nat.le_trans hsz.out hx)⟩
            obtain ⟨r2, rfl, hr2⟩ := hr2
            refine ⟨q - 1, r2, by omega, by congr 1; omega, B2.out, Hf1.out.trans F2.out (fun i hi => ?_), hr2⟩
            simp at hi
            rcases hi with rfl | rfl
            · exact .inl (by simp)
            · rcases Hrb.out with h | h
              · exact .inl (by rw [h]; simp)
              · exact .inr h
          case measure => first | (simp [intOf]; done) | (simp [intOf]; omega)
        · obtain rfl : q = 0 := by omega
          go_wp2_with fail
          go_end0
          have := Hb1.out
          rw [Nat.sub_zero, Int.pow_zero, Int.ediv_one] at this
          refine ⟨rfl, _, this, Hf1.out.mono (by simp), ?_⟩
          rcases Hrb.out with h | h
          · exact .inl (by rw [h])
          · exact .inr ⟨_, rfl, h⟩
    · have hu1 := intLen_out hu.out.1 hu.out.2 hin
      have U := Lib.hid (show -9223372036854775808 ≤ u / 256 ∧ u / 256 ≤ 9223372036854775807 by have := hu.out; omega)
      have HU1 := Lib.hid hu1
      have hor : (128 : Int) ≤ u ∨ (¬ (128 : Int) ≤ u ∧ u < -128) := by omega
      clear hin hu1
      rcases hor with t1 | ⟨t1, t2⟩
      all_goals
        go_wp2_with fail
        go_round
        case rel => exact ⟨k + 1, u / 256, by omega, by have := HU1.out; omega, U.out, by go_num, rfl⟩
        case measure => have := HU1.out; simp [intOf]; omega

theorem and_u64 {x : Int} (h0 : 0 ≤ x) (h1 : x < 18446744073709551616) : bits .and .u64 x 255 = x % 256 := by
  show IntKind.u64.wrap ((BitVec.ofInt 64 x &&& BitVec.ofInt 64 255).toNat : Int) = _
  have e1 : (BitVec.ofInt 64 x).toNat = (x % 18446744073709551616).toNat := by simp [BitVec.toNat_ofInt]
  have e2 : (BitVec.ofInt 64 255).toNat = 2 ^ 8 - 1 := by rfl
  rw [BitVec.toNat_and, e1, e2, Nat.and_two_pow_sub_one_eq_mod, IntKind.wrap_u64]
  omega
theorem byte_u64 {v : Int} (h0 : 0 ≤ v) (h1 : v < 18446744073709551616) {q : Nat} (hq : 1 ≤ q) (hq9 : q ≤ 9) : bits .and .u64 (v / 2 ^ ((q - 1) * 8)) 255 % 256 = v / 256 ^ (q - 1) % 256 := by
  have : q = 1 ∨ q = 2 ∨ q = 3 ∨ q = 4 ∨ q = 5 ∨ q = 6 ∨ q = 7 ∨ q = 8 ∨ q = 9 := by omega
  rcases this with rfl | rfl | rfl | rfl | rfl | rfl | rfl | rfl | rfl <;> simp only [Nat.reduceSub, Nat.reduceMul, Int.reducePow] <;> rw [and_u64 (by omega) (by omega)] <;> omega
set_option maxRecDepth 100000 in
set_option maxHeartbeats 1600000 in
theorem clos_uint (K : Kd) (base gc rc p : Nat) (xs : List Int) (off pl : Int) (pa : Bool) (ic : Value) (v : Int) (w : World)
    (hg : Bld K w base gc xs off pl pa ic (some rc)) (hp : Blk w p 102 #[.int .u64 v]) (hpc : p ≠ gc) (hpr : p ≠ rc) (hl : xs.length + uintLen v ≤ K.lim) (hb : base ≤ w.heap.size) (h0 : 0 ≤ v) (h1 : v < 18446744073709551616) :
    Calls Try.prog 102 #[.pointer (some ⟨gc, 0, none⟩), .pointer (some ⟨p, 0, none⟩)] w (AddPost K base gc (xs ++ bigB (uintLen v) v) off pl pa ic (some rc) w) := by
  have p0 := hp.one
  have Hg := Lib.hid hg
  have Hp := Lib.hid hp
  have H0 := Lib.hid h0
  have H1 := Lib.hid h1
  have hL := uintLen_bd v
  obtain ⟨L, hL'⟩ : ∃ L, L = uintLen v := ⟨_, rfl⟩
  rw [← hL'] at hL hl ⊢
  have HL := Lib.hid hL'
  clear hg hp h0 h1 hL'
  go_enter Try.func102, Try.ntmps102
  go_wp2_with fail
  go_loop [3, 4] (fun l i => ∃ (k : Nat) (u : Int), 1 ≤ k ∧ k + uintLen u = L + 1 ∧ Hid ((0 ≤ u ∧ u < 18446744073709551616)) ∧ l = .int .i64 k ∧ i = .int .u64 u) (fun _ i => uintLen (intOf i))
  case atStart => exact ⟨1, v, by omega, by rw [HL.out]; omega, ⟨H0.out, H1.out⟩, rfl, rfl⟩
  case round =>
    obtain ⟨k, u, hk1, hk2, hu, rfl, rfl⟩ := hrel
    have hlu := uintLen_bd u
    by_cases hin : u ≤ 127
    · have hu1 : uintLen u = 1 := uintLen_in hin
      have hkL : k = L := by omega
      subst hkL
      have t1 : decide ((128 : Int) ≤ u) = false := by rw [decide_eq_false_iff_not]; omega
      skip
      clear hin hu1 hk2 hlu hk1
      go_wp2_with fail
      go_loopw [3] (fun l wr => ∃ (q rb' : Nat), q ≤ k ∧ l = .int .i64 q ∧ Bld K wr base gc (xs ++ bigB (k - q) (v / 256 ^ q)) off pl pa ic (some rb') ∧ Fr [gc, rc] w wr ∧ (rb' = rc ∨ w.heap.size ≤ rb')) (fun l _ => (intOf l).toNat)
      case atStart => exact ⟨k, rc, Nat.le_refl _, rfl, by rw [Nat.sub_self, bigB_zero, List.append_nil]; exact Hg.out, Fr.refl _ _, .inl rfl⟩
      case round =>
        obtain ⟨q, rb', hq, rfl, hb1, hfr, hrb⟩ := hrel
        have r0 := (hfr.blk Hp.out (by simp; exact ⟨hpc, hpr⟩)).one
        have Hb1 := Lib.hid hb1
        have Hf1 := Lib.hid hfr
        have Hrb := Lib.hid hrb
        have hk9 : k ≤ 9 := by omega
        clear hb1 hfr hrb
        by_cases hz : 0 < q
        · have hz' : (0 : Int) < (q : Int) := by omega
          have E := Lib.hid (byte_u64 (q := q) H0.out H1.out (by omega) (by omega))
          have S := Lib.hid (show bigB (k - (q - 1)) (v / 256 ^ (q - 1)) = bigB (k - q) (v / 256 ^ q) ++ [v / 256 ^ (q - 1) % 256] by
            have := bigB_up (k := k) (j := k - q) v (by omega)
            rw [show k - (k - q + 1) = q - 1 by omega, show k - (k - q) = q by omega, show k - q + 1 = k - (q - 1) by omega] at this
            exact this)
          have hsz := Lib.hid Hf1.out.size
          go_wp2_with fail
          rw [E.out]
          refine (addU8_any K base gc (xs ++ bigB (k - q) (v / 256 ^ q)) off pl pa ic (some rb') _ wr Hb1.out (by rw [List.length_append, bigB_len]; omega) (Nat.le_trans hb hsz.out)).mono ?_
          rintro e w2 ⟨rfl, rb2, b2, f2, h2⟩
          rw [List.append_assoc, ← S.out] at b2
          have B2 := Lib.hid b2
          have F2 := Lib.hid f2
          have H2 := Lib.hid h2
          clear b2 f2 h2
          go_wp2_with fail
          go_roundw
          case rel =>
            have hr2 : ∃ r2, rb2 = some r2 ∧ (r2 = rc ∨ w.heap.size ≤ r2) := by
              rcases H2.out with h | ⟨x, h, hx⟩
              · exact ⟨rb', h, Hrb.out⟩
              · exact ⟨x, h, .inr (Nat.le_trans hsz.out hx)⟩
            obtain ⟨r2, rfl, hr2⟩ := hr2
            refine ⟨q - 1, r2, by omega, by congr 1; omega, B2.out, Hf1.out.trans F2.out (fun i hi => ?_), hr2⟩
            simp at hi
            rcases hi with rfl | rfl
            · exact .inl (by simp)
            · rcases Hrb.out with h | h
              · exact .inl (by rw [h]; simp)
              · exact .inr h
          case measure => first | (simp [intOf]; done) | (simp [intOf]; omega)
        · obtain rfl : q = 0 := by omega
          go_wp2_with fail
          go_end0
          have := Hb1.out
          rw [Nat.sub_zero, Int.pow_zero, Int.ediv_one] at this
          refine ⟨rfl, _, this, Hf1.out.mono (by simp), ?_⟩
          rcases Hrb.out with h | h
          · exact .inl (by rw [h])
          · exact .inr ⟨_, rfl, h⟩
    · have hu1 := uintLen_out hu.out.2 (by omega)
      have U := Lib.hid (show 0 ≤ u / 256 ∧ u / 256 < 18446744073709551616 by have := hu.out; omega)
      have HU1 := Lib.hid hu1
      have t1 : (128 : Int) ≤ u := by omega
      clear hin hu1
      go_wp2_with fail
      go_round
      case rel => exact ⟨k + 1, u / 256, by omega, by have := HU1.out; omega, U.out, by go_num, rfl⟩
      case measure => have := HU1.out; simp [intOf]; omega
end Go.Proofs.Ytdnepnnkpaoaaaa
