/- The reference's builder in memory: the contracts of its write, put, element, prefixed, back. -/
import Derived.Test.YtdnepnnkpaoaaaaMG
import Derived.Test.YtdnepnnkpaoaaaaSpecBig
import Derived.Test.YtdnepnnkpaoaaaaGValue
namespace Go.Proofs.Ytdnepnnkpaoaaaa
open Go.RowKit
set_option linter.unusedVariables false

abbrev sCs (v : Value) (d : Nat) (f r : Bool) : Array Value := #[v, .int .i64 d, .bool f, .bool r]
/-- The reference's builder, its bytes in a row of their own. -/
def SB (w : World) (base g : Nat) (s : PB) (rb : Option Nat) : Prop :=
  ∃ v, Blk w g 55 (sCs v s.direct s.failed s.wrong) ∧ OwnB w base 5 v s.out ∧ v.ownBlock = rb
def SPost (base g : Nat) (s : PB) (rb : Option Nat) (w : World) (e : Ending) (w' : World) : Prop :=
  e = .returned (.tuple #[]) ∧ ∃ rb', SB w' base g s rb' ∧ Fr (g :: rb.toList) w w' ∧ (rb' = rb ∨ ∃ k, rb' = some k ∧ w.heap.size ≤ k)
theorem SB.own_ne {w : World} {base g : Nat} {s : PB} {rb : Option Nat} (h : SB w base g s rb) : rb ≠ some g := by
  obtain ⟨v, h1, h2, rfl⟩ := h
  exact h2.ne_blk h1 (by decide)
theorem SB.fr {S : List Nat} {w w' : World} {base g : Nat} {s : PB} {rb : Option Nat} (h : SB w base g s rb) (hf : Fr S w w') (hg : g ∉ S) (hr : ∀ k, rb = some k → k ∉ S) : SB w' base g s rb := by
  obtain ⟨v, h1, h2, rfl⟩ := h
  exact ⟨v, hf.blk h1 hg, h2.fr hf hr, rfl⟩
theorem SB.keep {w w' : World} {base g : Nat} {s : PB} {rb : Option Nat} (h : SB w base g s rb) (hf : Fr [] w w') : SB w' base g s rb := h.fr hf (by simp) (by simp)
theorem SPost.from_ {base g : Nat} {s : PB} {rb : Option Nat} {w w1 w' : World} {e : Ending} (hf : Fr (g :: rb.toList) w w1) (h : SPost base g s rb w1 e w') : SPost base g s rb w e w' := by
  obtain ⟨he, rb', h1, h2, h3⟩ := h
  exact ⟨he, rb', h1, hf.trans h2 (fun i hi => .inl hi), h3.imp id (fun ⟨k, e, hk⟩ => ⟨k, e, Nat.le_trans hf.size hk⟩)⟩

set_option maxRecDepth 100000 in
set_option maxHeartbeats 800000 in
theorem sWrite (base g : Nat) (s : PB) (rb : Option Nat) (ys : List Int) (a : Option Addr) (n c : Nat) (w : World) (hg : SB w base g s rb) (hn : ys.length = n) (hy : BIn w w.heap.size a ys) (hl : s.out.length + n ≤ 16777000) (hd : s.direct ≤ s.out.length) (hb : base ≤ w.heap.size) :
    Calls Try.prog 61 #[.pointer (some ⟨g, 0, none⟩), .slice a n c] w (SPost base g (s.write ys) rb w) := by
  obtain ⟨v, hg, hown, rfl⟩ := hg
  obtain ⟨i0, hi0, hz0, hz1, hz2⟩ := info_parts u8_info
  obtain ⟨av, cv, rfl, hlc, hcv, _, _⟩ := hown.form
  obtain ⟨xs, d, f, r⟩ := s
  simp only at hg hown hl hd hlc hcv ⊢
  have c0 : w.cell? ⟨g, 0, none⟩ = some (.slice av xs.length cv) := hg.cell 0
  have c1 : w.cell? ⟨g, 1, none⟩ = some (.int .i64 d) := hg.cell 1
  have hne := hown.ne_blk hg (by decide)
  have Hn := Lib.hid hn
  have Hg := Lib.hid hg
  have Hy := Lib.hid hy
  have Hne := Lib.hid hne
  have hgl := hg.lt
  obtain ⟨m, hm⟩ : ∃ m, m = xs.length := ⟨_, rfl⟩
  have HO := Lib.hid (show OwnB w base 5 (.slice av m cv) xs by rw [hm]; exact hown)
  rw [← hm] at c0 hl hd
  have Hm := Lib.hid hm
  have C1 := Lib.hid (show xs.length + ys.length ≤ 70368744177664 by omega)
  have hk := Lib.hid (fun (w1 w' : World) (h1 : w1.heap = w.heap) (hg1 : w1.grownBy w' (Value.slice av m cv).ownBlock) => (show Blk w' g 55 (sCs (.slice av m cv) d f r) from (hg1.block g (by rw [h1]; exact hgl) (fun e => by have := Hne.out; rw [← Hm.out] at this; exact this e.symm)).trans (by rw [h1, Hm.out]; exact Hg.out)))
  clear hg hn hown hne hlc hcv hy hm
  go_enter Try.func61, Try.ntmps61
  go_wp2_with (at_builtin; go_must (refine wpList_append_bytes _ rfl (.tmp 8) (.tmp 9) _ rfl base 5 i0 _ Try.underlying22 hi0 hz0 hz1 hz2 rfl (.slice av m cv) xs rfl HO.out _ a n c ys Hn.out rfl Hy.out C1.out hb ?_; intro A' c' w1 hown1 hg1 hat; have B1 := Lib.hid (hk.out w _ rfl hg1); have b0 : w1.cell? ⟨g, 0, none⟩ = some (.slice av m cv) := B1.out.cell 0; have b1 : w1.cell? ⟨g, 1, none⟩ = some (.int .i64 d) := B1.out.cell 1; have f0 := B1.out.frozen 0; have f1 := B1.out.frozen 1))
  go_end0
  have hb1 : Fr (g :: (Value.slice av m cv).ownBlock.toList) w w1 := (Fr.refl _ w).grown hg1 (fun k hk => .inl (by simp [hk]))
  have hne' := hown1.ne_blk B1.out (by decide)
  rw [Hm.out] at hat hb1
  refine ⟨rfl, _, ⟨.slice A' (xs.length + n) c', ?_, ?_, rfl⟩, (hb1.set_ (.inl (by simp)) _).set_ (.inl (by simp)) _, ?_⟩
  · have := (B1.out.set_ 0 (.slice A' (m + n) c')).set_ 1 (.int .i64 (d + n))
    rw [← Hm.out]
    have e1 : (PB.write ⟨xs, d, f, r⟩ ys).direct = d + n := by simp [PB.write, Hn.out]
    simp only [PB.write, Hn.out] at this ⊢
    simpa [sCs] using this
  · refine hown1.fr (S := [g]) (((Fr.refl [g] w1).set_ (.inl (by simp)) _).set_ (.inl (by simp)) _) (fun k' hk' e => ?_)
    rw [List.mem_singleton] at e
    exact hne' (by rw [hk', e])
  · rcases hat with h | h
    · exact .inl h
    · exact .inr ⟨_, h, Nat.le_refl _⟩

set_option maxRecDepth 100000 in
set_option maxHeartbeats 800000 in
theorem sPut (base g : Nat) (s : PB) (rb : Option Nat) (ys : List Int) (a : Option Addr) (n c : Nat) (w : World) (hg : SB w base g s rb) (hn : ys.length = n) (hy : BIn w w.heap.size a ys) (hl : s.out.length + n ≤ 16777000) (hb : base ≤ w.heap.size) :
    Calls Try.prog 94 #[.pointer (some ⟨g, 0, none⟩), .slice a n c] w (SPost base g (s.put ys) rb w) := by
  obtain ⟨v, hg, hown, rfl⟩ := hg
  obtain ⟨i0, hi0, hz0, hz1, hz2⟩ := info_parts u8_info
  obtain ⟨av, cv, rfl, hlc, hcv, _, _⟩ := hown.form
  obtain ⟨xs, d, f, r⟩ := s
  simp only at hg hown hl hlc hcv ⊢
  have c0 : w.cell? ⟨g, 0, none⟩ = some (.slice av xs.length cv) := hg.cell 0
  have c1 : w.cell? ⟨g, 1, none⟩ = some (.int .i64 d) := hg.cell 1
  have hne := hown.ne_blk hg (by decide)
  have Hn := Lib.hid hn
  have Hg := Lib.hid hg
  have Hy := Lib.hid hy
  have Hne := Lib.hid hne
  have hgl := hg.lt
  obtain ⟨m, hm⟩ : ∃ m, m = xs.length := ⟨_, rfl⟩
  have HO := Lib.hid (show OwnB w base 5 (.slice av m cv) xs by rw [hm]; exact hown)
  rw [← hm] at c0 hl
  have Hm := Lib.hid hm
  have C1 := Lib.hid (show xs.length + ys.length ≤ 70368744177664 by omega)
  have hk := Lib.hid (fun (w1 w' : World) (h1 : w1.heap = w.heap) (hg1 : w1.grownBy w' (Value.slice av m cv).ownBlock) => (show Blk w' g 55 (sCs (.slice av m cv) d f r) from (hg1.block g (by rw [h1]; exact hgl) (fun e => by have := Hne.out; rw [← Hm.out] at this; exact this e.symm)).trans (by rw [h1, Hm.out]; exact Hg.out)))
  clear hg hn hown hne hlc hcv hy hm
  go_enter Try.func94, Try.ntmps94
  go_wp2_with (at_builtin; go_must (refine wpList_append_bytes _ rfl (.tmp 8) (.tmp 9) _ rfl base 5 i0 _ Try.underlying22 hi0 hz0 hz1 hz2 rfl (.slice av m cv) xs rfl HO.out _ a n c ys Hn.out rfl Hy.out C1.out hb ?_; intro A' c' w1 hown1 hg1 hat; have B1 := Lib.hid (hk.out w _ rfl hg1); have b0 : w1.cell? ⟨g, 0, none⟩ = some (.slice av m cv) := B1.out.cell 0; have b1 : w1.cell? ⟨g, 1, none⟩ = some (.int .i64 d) := B1.out.cell 1; have f0 := B1.out.frozen 0; have f1 := B1.out.frozen 1))
  go_end0
  have hb1 : Fr (g :: (Value.slice av m cv).ownBlock.toList) w w1 := (Fr.refl _ w).grown hg1 (fun k hk => .inl (by simp [hk]))
  have hne' := hown1.ne_blk B1.out (by decide)
  rw [Hm.out] at hat hb1
  refine ⟨rfl, _, ⟨.slice A' (xs.length + n) c', ?_, ?_, rfl⟩, (hb1.set_ (.inl (by simp)) _).set_ (.inl (by simp)) _, ?_⟩
  · have := (B1.out.set_ 0 (.slice A' (m + n) c')).set_ 1 (.int .i64 (0))
    rw [← Hm.out]
    simp only [PB.put] at this ⊢
    simpa [sCs] using this
  · refine hown1.fr (S := [g]) (((Fr.refl [g] w1).set_ (.inl (by simp)) _).set_ (.inl (by simp)) _) (fun k' hk' e => ?_)
    rw [List.mem_singleton] at e
    exact hne' (by rw [hk', e])
  · rcases hat with h | h
    · exact .inl h
    · exact .inr ⟨_, h, Nat.le_refl _⟩

theorem SB.set2 {w : World} {base g : Nat} {s : PB} {rb : Option Nat} (h : SB w base g s rb) (b : Bool) : SB (w.setCell ⟨g, 2, none⟩ (.bool b)) base g { s with failed := b } rb := by
  have hne := h.own_ne
  obtain ⟨v, h1, h2, rfl⟩ := h
  refine ⟨v, by have := h1.set_ 2 (.bool b); simpa [sCs] using this, h2.fr (S := [g]) ((Fr.refl [g] w).set_ (.inl (by simp)) _) (fun k hk e => ?_), rfl⟩
  rw [List.mem_singleton] at e
  exact hne (by rw [hk, e])
theorem SB.set3 {w : World} {base g : Nat} {s : PB} {rb : Option Nat} (h : SB w base g s rb) (b : Bool) : SB (w.setCell ⟨g, 3, none⟩ (.bool b)) base g { s with wrong := b } rb := by
  have hne := h.own_ne
  obtain ⟨v, h1, h2, rfl⟩ := h
  refine ⟨v, by have := h1.set_ 3 (.bool b); simpa [sCs] using this, h2.fr (S := [g]) ((Fr.refl [g] w).set_ (.inl (by simp)) _) (fun k hk e => ?_), rfl⟩
  rw [List.mem_singleton] at e
  exact hne (by rw [hk, e])
theorem SB.post2 {w : World} {base g : Nat} {s : PB} {rb : Option Nat} (h : SB w base g s rb) (b : Bool) : SPost base g { s with failed := b } rb w (.returned (.tuple #[])) (w.setCell ⟨g, 2, none⟩ (.bool b)) :=
  ⟨rfl, rb, h.set2 b, (Fr.refl _ w).set_ (.inl (by simp)) _, .inl rfl⟩
theorem SB.cells {w : World} {base g : Nat} {s : PB} {rb : Option Nat} (h : SB w base g s rb) : (∃ a c, w.cell? ⟨g, 0, none⟩ = some (.slice a s.out.length c) ∧ s.out.length ≤ c ∧ c ≤ maxLen ∧ OwnB w base 5 (.slice a s.out.length c) s.out ∧ (Value.slice a s.out.length c).ownBlock = rb) ∧ w.cell? ⟨g, 1, none⟩ = some (.int .i64 s.direct) ∧ w.cell? ⟨g, 2, none⟩ = some (.bool s.failed) ∧ w.cell? ⟨g, 3, none⟩ = some (.bool s.wrong) ∧ ∀ i, w.frozen? ⟨g, i, none⟩ = false := by
  obtain ⟨v, h1, h2, rfl⟩ := h
  obtain ⟨av, cv, rfl, hlc, hcv, _, _⟩ := h2.form
  exact ⟨⟨av, cv, h1.cell 0, hlc, hcv, h2, rfl⟩, h1.cell 1, h1.cell 2, h1.cell 3, h1.frozen⟩
/-- A slice of the call's own was handed on, and put. -/
theorem SPost.of_put {base g : Nat} {s : PB} {rb : Option Nat} {w w1 w' : World} {e : Ending} (hf : Below w.heap.size w w1) (h : SPost base g s rb w1 e w') : SPost base g s rb w e w' := SPost.from_ (Fr.of_below hf _) h

set_option maxRecDepth 100000 in
set_option maxHeartbeats 800000 in
theorem sElement (base g : Nat) (s : PB) (rb : Option Nat) (t : Int) (ys : List Int) (a : Option Addr) (n c : Nat) (w : World) (hg : SB w base g s rb) (h0 : 0 ≤ t) (h1 : t < 256) (hn : ys.length = n) (hy : BIn w w.heap.size a ys) (hl : s.out.length + n ≤ 16700000) (hb : base ≤ w.heap.size) :
    Calls Try.prog 65 #[.pointer (some ⟨g, 0, none⟩), .int .i64 t, .slice a n c] w (SPost base g (s.element t ys) rb w) := by
  obtain ⟨_, _, _, _, fz⟩ := hg.cells
  have f2 := fz 2
  obtain ⟨c2, hc2⟩ : ∃ b, w.cell? ⟨g, 2, none⟩ = some (.bool b) := ⟨_, hg.cells.2.2.1⟩
  by_cases ht : t % 32 = 31
  · have E := Lib.hid (show s.element t ys = { s with failed := true } by unfold PB.element; rw [if_pos ht]; rfl)
    have HG := Lib.hid hg
    have ht' : (t % 32 == 31) = true := by simpa using ht
    clear hg hn hy hl hb fz ht
    go_enter Try.func65, Try.ntmps65
    go_wp2_with fail
    go_end0
    rw [E.out]
    exact HG.out.post2 true
  · have E := Lib.hid (show s.element t ys = s.put (derWrap t ys) by unfold PB.element; rw [if_neg ht])
    have HL := derWrap_lenx t ys
    have HL2 := extraB_le ys.length
    have HW := Lib.hid (wrapped_any t a n c ys w h0 h1 (by omega) hn hy)
    have HP := Lib.hid (fun (w1 : World) (a1 : Option Addr) (m c1 : Nat) (hbel : Below w.heap.size w w1) (hm : (derWrap t ys).length = m) (hb1 : BIn w1 w1.heap.size a1 (derWrap t ys)) =>
      sPut base g s rb (derWrap t ys) a1 m c1 w1 (hg.keep (Fr.of_below hbel [])) hm hb1 (by omega) (Nat.le_trans hb hbel.size))
    have ht' : (t % 32 == 31) = false := by simpa using ht
    rw [E.out]
    clear hg hn hy hl hb fz ht HL HL2 hc2 f2
    obtain ⟨Z, hZ⟩ : ∃ Z, Z = derWrap t ys := ⟨_, rfl⟩
    rw [← hZ] at HW HP ⊢
    clear hZ E
    go_enter Try.func65, Try.ntmps65
    go_wp2_with fail
    refine HW.out.mono ?_
    rintro e w1 ⟨a1, c1, rfl, h1, h2, h3, h4, h5⟩
    obtain ⟨M, hM⟩ : ∃ M, M = Z.length := ⟨_, rfl⟩
    rw [← hM]
    have HP1 := Lib.hid (HP.out w1 a1 M c1 h4 hM.symm h3)
    have H4 := Lib.hid h4
    clear h1 h2 h3 h4 h5 hM
    go_wp2_with fail
    refine HP1.out.mono ?_
    rintro e w2 hq
    obtain ⟨rfl, _⟩ := id hq
    have hq' := Lib.hid hq
    clear hq
    go_wp2_with fail
    go_end0
    exact hq'.out.of_put H4.out

theorem small_div {n k : Nat} (h : n < 256 ^ k) : n / 256 ^ k = 0 := Nat.div_eq_of_lt h
set_option maxRecDepth 100000 in
set_option maxHeartbeats 1600000 in
theorem sPrefixed (base g : Nat) (s : PB) (rb : Option Nat) (k : Nat) (kk : Int) (ys : List Int) (a : Option Addr) (n c : Nat) (w : World) (hg : SB w base g s rb) (hkk : (k = 1 ∧ kk = 1) ∨ (k = 2 ∧ kk = 2) ∨ (k = 3 ∧ kk = 3) ∨ (k = 4 ∧ kk = 4)) (hn : ys.length = n) (hy : BIn w w.heap.size a ys) (hl : s.out.length + n ≤ 16700000) (hb : base ≤ w.heap.size) :
    Calls Try.prog 63 #[.pointer (some ⟨g, 0, none⟩), .slice a n c, .int .i64 kk] w (SPost base g (s.prefixed ys k) rb w) := by
  have hk : k = 1 ∨ k = 2 ∨ k = 3 ∨ k = 4 := by omega
  have HB0 := Lib.hid (fun (h1 : (0 : Int) ≤ (n : Int)) (h2 : (n : Int) < 18446744073709551616) => show Calls Try.prog 62 #[.int .u64 (n : Int), .int .i64 kk] w (OwnPost w (bigB k n)) by rw [show kk = (k : Int) by omega]; exact big_any (n : Int) k w h1 h2 (by omega))
  obtain ⟨_, _, _, _, fz⟩ := hg.cells
  have f2 := fz 2
  obtain ⟨c2, hc2⟩ : ∃ b, w.cell? ⟨g, 2, none⟩ = some (.bool b) := ⟨_, hg.cells.2.2.1⟩
  obtain ⟨i0, hi0, hz0, hz1, hz2⟩ := info_parts u8_info
  by_cases ht : n / 256 ^ k = 0
  · have E := Lib.hid (show s.prefixed ys k = s.put (bigB k n ++ ys) by unfold PB.prefixed; rw [hn, if_pos ht])
    have HB := Lib.hid (HB0.out (by omega) (by omega))
    have HP := Lib.hid (fun (w1 : World) (a1 : Option Addr) (m c1 : Nat) (hbel : Below w.heap.size w w1) (hm : (bigB k n ++ ys).length = m) (hb1 : BIn w1 w1.heap.size a1 (bigB k n ++ ys)) =>
      sPut base g s rb (bigB k n ++ ys) a1 m c1 w1 (hg.keep (Fr.of_below hbel [])) hm hb1 (by have : (bigB k n ++ ys).length ≤ 4 + n := (by rw [List.length_append, bigB_len]; omega); omega) (Nat.le_trans hb hbel.size))
    have HL := Lib.hid (show (bigB k n).length = k by rw [bigB_len])
    have HY := Lib.hid hy
    have Hn := Lib.hid hn
    have HK := Lib.hid hk
    have hN : n ≤ 16700000 := by omega
    have ht' : (k = 1 ∧ kk = 1 ∧ decide ((256 : Int) ≤ (n : Int)) = false) ∨ (k = 2 ∧ kk = 2 ∧ decide ((65536 : Int) ≤ (n : Int)) = false) ∨ (k = 3 ∧ kk = 3 ∧ decide ((16777216 : Int) ≤ (n : Int)) = false) ∨ (k = 4 ∧ kk = 4 ∧ decide ((4294967296 : Int) ≤ (n : Int)) = false) := by
      rcases hkk with ⟨rfl, rfl⟩ | ⟨rfl, rfl⟩ | ⟨rfl, rfl⟩ | ⟨rfl, rfl⟩
      · left; refine ⟨rfl, rfl, ?_⟩; rw [decide_eq_false_iff_not]; intro h; have : n < 256 := by (rw [Nat.div_eq_zero_iff] at ht; omega)
        omega
      · right; left; refine ⟨rfl, rfl, ?_⟩; rw [decide_eq_false_iff_not]; intro h; have : n < 65536 := by (rw [Nat.div_eq_zero_iff] at ht; omega)
        omega
      · right; right; left; refine ⟨rfl, rfl, ?_⟩; rw [decide_eq_false_iff_not]; omega
      · right; right; right; refine ⟨rfl, rfl, ?_⟩; rw [decide_eq_false_iff_not]; omega
    rw [E.out]
    clear hg hn hy hl hb fz hc2 f2 ht hk hkk E HB0
    obtain ⟨Z, hZ⟩ : ∃ Z, Z = bigB k n := ⟨_, rfl⟩
    rw [← hZ] at HB HP HL ⊢
    have HC := Lib.hid (show Z.length + ys.length ≤ 70368744177664 by rw [HL.out, Hn.out]; have := HK.out; omega)
    have HZL := Lib.hid (show (Z ++ ys).length = Z.length + n by rw [List.length_append, Hn.out])
    clear hZ
    rcases ht' with ⟨rfl, rfl, h⟩ | ⟨rfl, rfl, h⟩ | ⟨rfl, rfl, h⟩ | ⟨rfl, rfl, h⟩
    all_goals (
      go_enter Try.func63, Try.ntmps63
      go_wp2_with fail
      refine HB.out.mono ?_
      rintro e w1 ⟨a1, c1, rfl, h1, h2, h3, h4, h5⟩
      have H4 := Lib.hid h4
      have H5 := Lib.hid h5
      have H45 := Lib.hid h4.size
      have HY1 := Lib.hid (show BIn w1 w.heap.size a ys from HY.out.keep (fun _ hp => h4.cell hp))
      clear h1 h2 h3 h4 h5
      rw [HL.out] at H5 ⊢
      go_wp2_with (at_builtin; go_must (refine wpList_append_bytes _ rfl (.tmp 20) (.tmp 21) _ rfl w.heap.size 5 i0 _ Try.underlying22 hi0 hz0 hz1 hz2 rfl (.slice a1 _ c1) Z rfl H5.out _ a n c ys Hn.out rfl HY1.out HC.out H45.out ?_; intro A' c' w2 hown1 hg1 hat; have HO2 := Lib.hid hown1; have HG2 := Lib.hid hg1; clear hown1 hg1 hat))
      have HLT := Lib.hid H5.out.lt
      have HBel := Lib.hid (H4.out.grown HG2.out H45.out (fun k hk => (HLT.out k hk).1))
      have HP1 := Lib.hid (HP.out w2 A' (Z.length + n) c' HBel.out HZL.out (HO2.out.bin HZL.out))
      rw [HL.out] at HP1 ⊢
      refine HP1.out.mono ?_
      rintro e w3 hq
      obtain ⟨rfl, _⟩ := id hq
      have hq' := Lib.hid hq
      clear hq
      go_wp2_with fail
      go_end0
      exact hq'.out.of_put HBel.out)
  · have E := Lib.hid (show s.prefixed ys k = { s with failed := true } by unfold PB.prefixed; rw [hn, if_neg ht]; rfl)
    have HG := Lib.hid hg
    have ht' : (k = 1 ∧ kk = 1 ∧ decide ((256 : Int) ≤ (n : Int)) = true) ∨ (k = 2 ∧ kk = 2 ∧ decide ((65536 : Int) ≤ (n : Int)) = true) := by
      rcases hkk with ⟨rfl, rfl⟩ | ⟨rfl, rfl⟩ | ⟨rfl, rfl⟩ | ⟨rfl, rfl⟩
      · left; refine ⟨rfl, rfl, ?_⟩; rw [decide_eq_true_eq]; rcases Nat.lt_or_ge n 256 with h | h
        · exact absurd (small_div (k := 1) (by omega)) ht
        · omega
      · right; refine ⟨rfl, rfl, ?_⟩; rw [decide_eq_true_eq]; rcases Nat.lt_or_ge n 65536 with h | h
        · exact absurd (small_div (k := 2) (by omega)) ht
        · omega
      · exact absurd (small_div (k := 3) (by omega)) ht
      · exact absurd (small_div (k := 4) (by omega)) ht
    rw [E.out]
    clear hg hn hy hl hb fz ht hk hkk E HB0
    rcases ht' with ⟨rfl, rfl, h⟩ | ⟨rfl, rfl, h⟩
    all_goals (
      go_enter Try.func63, Try.ntmps63
      go_wp2_with fail
      go_end0
      exact HG.out.post2 true)

set_option maxRecDepth 100000 in
set_option maxHeartbeats 1600000 in
theorem sBack (base g : Nat) (s : PB) (rb : Option Nat) (z : Int) (w : World) (hg : SB w base g s rb) (hz1 : -9223372036854775808 ≤ z) (hz2 : z ≤ 9223372036854775807) (hl : s.out.length ≤ 16700000) (hd : s.direct ≤ s.out.length) :
    Calls Try.prog 67 #[.pointer (some ⟨g, 0, none⟩), .int .i64 z] w (SPost base g (s.back z) rb w) := by
  obtain ⟨⟨a, c, c0, hlc, hcm, hown, hrb⟩, c1, c2, c3, fz⟩ := hg.cells
  have f0 := fz 0
  have f1 := fz 1
  have f3 := fz 3
  have HG := Lib.hid hg
  by_cases ht : z < 0 ∨ (s.direct : Int) < z
  · have E := Lib.hid (show s.back z = { s with wrong := true } by unfold PB.back; rw [if_pos ht])
    rw [E.out]
    obtain ⟨d, hdd⟩ : ∃ d, d = s.direct := ⟨_, rfl⟩
    rw [← hdd] at ht c1
    clear hg hdd hl hd hown hrb hlc hcm c0 fz c2
    have hc : decide (z < 0) = true ∨ (decide (z < 0) = false ∧ decide ((d : Int) < z) = true) := by
      by_cases h : z < 0
      · left; simpa using h
      · right; exact ⟨by simpa using h, by simp; omega⟩
    clear ht
    rcases hc with h | ⟨h, h'⟩
    all_goals (
      go_enter Try.func67, Try.ntmps67
      go_wp2_with fail
      go_end0
      exact ⟨rfl, rb, HG.out.set3 true, (Fr.refl _ w).set_ (.inl (by simp)) _, .inl rfl⟩)
  · obtain ⟨k, rfl⟩ : ∃ k : Nat, z = k := ⟨z.toNat, by omega⟩
    have hkd : k ≤ s.direct := by omega
    have E := Lib.hid (show s.back k = { s with out := s.out.take (s.out.length - k), direct := s.direct - k } by unfold PB.back; rw [if_neg ht]; simp)
    rw [E.out]
    obtain ⟨d, hdd⟩ : ∃ d, d = s.direct := ⟨_, rfl⟩
    obtain ⟨m, hm⟩ : ∃ m, m = s.out.length := ⟨_, rfl⟩
    rw [← hdd] at hkd hd c1 ⊢
    rw [← hm] at c0 hd hl hlc ⊢
    have Hm := Lib.hid hm
    have Hd := Lib.hid hdd
    have Hown := Lib.hid hown
    have Hrb := Lib.hid hrb
    have h1 : decide ((k : Int) < 0) = false := by simp
    have h2 : decide ((d : Int) < (k : Int)) = false := by simp; omega
    have sl := fun W => sl_to a m c ((m : Int) - (k : Int)) (m - k) (by omega) (by omega) hlc W
    obtain ⟨CA, hCA⟩ : ∃ CA, CA = cutA a c 0 := ⟨_, rfl⟩
    have HCA := Lib.hid hCA
    rw [← hCA] at sl
    have Hkd := Lib.hid (show k ≤ d ∧ d ≤ m by omega)
    have e2 : IntKind.i64.wrap ((d : Int) - (k : Int)) = (d : Int) - (k : Int) := IntWalk.i64_in _ (by omega)
    have HB0 := Lib.hid (show Blk w g 55 (sCs (.slice a m c) d s.failed s.wrong) by
      obtain ⟨v, q1, q2, q3⟩ := hg
      have := q1.cell 0
      rw [c0] at this
      simp at this
      rw [this, hdd]; exact q1)
    have e1 : IntKind.i64.wrap ((m : Int) - (k : Int)) = (m : Int) - (k : Int) := IntWalk.i64_in _ (by omega)
    clear hg hm hdd hown hrb fz c2 c3 f3 ht hcm hCA hlc E
    go_enter Try.func67, Try.ntmps67
    go_wp2_with fail
    refine region_tail 15 (by kernel_rfl) (by kernel_rfl) ?_
    simp only [List.take_succ_cons, List.take_zero, List.drop_succ_cons, List.drop_zero]
    repeat still_step
    refine wpStill_nil ?_
    go_wp2_with fail
    go_end0
    have hm := Hm.out
    have hd := Hd.out
    have hkd := Hkd.out
    have O2 : OwnB w.drew base 5 (.slice CA (m - k) c) (s.out.take (m - k)) := by rw [HCA.out]; rw [← hm] at Hown; exact Hown.out.take hm.symm (by omega)
    have hrow : ∀ j, (Value.slice CA (m - k) c).ownBlock = some j → rb = some j := by
      intro j hj
      rw [← Hrb.out, ← hj, HCA.out]
      rcases Hown.out.2 with ⟨h, _⟩ | ⟨g', cap, cur, h, _⟩
      · injection h with h1 h2 h3; subst h1; subst h3; rfl
      · injection h with h1 h2 h3; subst h1; rw [cutA_zero]; rfl
    refine ⟨rfl, rb, ⟨.slice CA (m - k) c, ?_, ?_, ?_⟩, ?_, .inl rfl⟩
    · have := ((HB0.out.drew).set_ 0 (.slice CA (m - k) c)).set_ 1 (.int .i64 ((d : Int) - k))
      rw [show (d : Int) - k = ((d - k : Nat) : Int) by omega] at this ⊢
      exact this
    · exact O2.fr (S := [g]) (((Fr.refl [g] _).set_ (p := ⟨g, 0, none⟩) (.inl (by simp)) _).set_ (p := ⟨g, 1, none⟩) (.inl (by simp)) _) (fun j hj e => by
        simp at e
        subst e
        exact HG.out.own_ne (hrow j hj))
    · rw [← Hrb.out, HCA.out]
      rcases Hown.out.2 with ⟨h, _⟩ | ⟨g', cap, cur, h, _⟩
      · injection h with h1 h2 h3; subst h1; subst h3; rfl
      · injection h with h1 h2 h3; subst h1; rw [cutA_zero]; rfl
    · exact ((((Fr.refl (g :: rb.toList) w).drew).set_ (p := ⟨g, 0, none⟩) (.inl (by simp)) _).set_ (p := ⟨g, 1, none⟩) (.inl (by simp)) _)
end Go.Proofs.Ytdnepnnkpaoaaaa
