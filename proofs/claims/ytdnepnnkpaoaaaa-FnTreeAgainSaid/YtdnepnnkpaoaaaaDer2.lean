/- The contract of (*String).readASN1 at a length that is told in the long form. -/
import Derived.Test.YtdnepnnkpaoaaaaDer1
namespace Go.Proofs.Ytdnepnnkpaoaaaa
open Go.RowKit
set_option linter.unusedVariables false

/-- A bound behind a name of its own: a great numeral in a walk's context costs it its depth. -/
def Lim (n : Nat) : Prop := n ≤ 4194304000
theorem Lim.out {n : Nat} (h : Lim n) : n ≤ 4194304000 := h

/-- What the walk is told of a long form: m bytes of length. -/
structure LongIn (g go gt : Nat) (tO : TypeId) (vo : Value) (b o n c m : Nat) (x0 : Int) (r : List Int) (z : Int) (B : Nat) (w : World) : Prop where
  hg : Blk w g 74 #[.slice (some ⟨b, o, none⟩) n c]
  ho : Blk w go tO #[vo]
  ht : Blk w gt 80 #[.int .u8 z]
  h1 : g ≠ go
  h2 : g ≠ gt
  h3 : go ≠ gt
  hB : B ≤ g
  hBo : B ≤ go
  hBt : B ≤ gt
  hn : r.length + 2 = n
  hc : n ≤ c
  hm : c ≤ maxLen
  hb : BIn w B (some ⟨b, o, none⟩) (x0 :: (128 + (m : Int)) :: r)
  hx : Byt (x0 :: (128 + (m : Int)) :: r)
  hh : x0 % 32 ≠ 31
  hm128 : m < 128

set_option maxRecDepth 100000 in
set_option maxHeartbeats 1600000 in
theorem readASN1_longbad (skip : Bool) (g go gt : Nat) (tO : TypeId) (vo : Value) (b o n c m : Nat) (x0 : Int) (r : List Int) (z : Int) (B : Nat) (w : World)
    (I : LongIn g go gt tO vo b o n c m x0 r z B w) (hbad : m = 0 ∨ 4 < m ∨ r.length < m) :
    Calls Try.prog 90 #[.pointer (some ⟨g, 0, none⟩), .pointer (some ⟨go, 0, none⟩), .pointer (some ⟨gt, 0, none⟩), .bool skip] w
      (DerNo B g go gt tO n (x0 :: (128 + (m : Int)) :: r) vo w) := by
  obtain ⟨hg, ho, ht, h1, h2, h3, hB, hBo, hBt, hn, hc, hm, hb, hx, hh, hm128⟩ := I
  obtain ⟨b', o', e, hbB, hcell⟩ := hb (by simp)
  injection e with e; injection e with e1 e2; subst e1; subst e2
  have e0 : w.cell? ⟨b, o, none⟩ = some (.int .u8 x0) := hcell 0 (by simp)
  have e1 : w.cell? ⟨b, o + 1, none⟩ = some (.int .u8 (128 + (m : Int))) := hcell 1 (by simp)
  obtain ⟨l0, l1⟩ := hx x0 (by simp)
  have t1 : (x0 % 32 == 31) = false := by simp; exact hh
  have t2 : (bits .and .u8 (128 + (m : Int)) 128 == 0) = false := by rw [and128 (by omega) (by omega), if_neg (by omega)]; rfl
  have t3 : bits .and .u8 (128 + (m : Int)) 127 = m := by rw [and127 (by omega) (by omega)]; omega
  have g0 := hg.one
  have of := ht.one
  have tf := ht.frozen 0
  have hgt : ¬ gt = g := fun e => h2 e.symm
  have hgs : ¬ g = w.heap.size := by have := hg.lt; omega
  have hgs2 : g < w.heap.size := hg.lt
  have hbg : ¬ b = g := by omega
  have hbt : ¬ b = gt := by omega
  have i2 : (2 : Int) ≤ (n : Int) := by omega
  have i1 : (1 : Int) < (n : Int) := by omega
  have i0 : (0 : Int) < (n : Int) := by omega
  have Hn := Lib.hid hn
  have Hg := Lib.hid hg
  have Ho := Lib.hid ho
  have Ht := Lib.hid ht
  have Hb := Lib.hid hb
  have Hx := Lib.hid hx
  have hbad' : m = 0 ∨ (0 < m ∧ 4 < m) ∨ (0 < m ∧ m ≤ 4 ∧ n < m + 2) := by omega
  have K : ∀ (o1 : Obj) (k : Nat), Hid (DerNo B g go gt tO n (x0 :: (128 + (m : Int)) :: r) vo w (.returned (.bool false)) (((w.drewN k).setCell ⟨gt, 0, none⟩ (.int .u8 x0)).alloc o1)) := fun o1 k => by
    have q1 : Fr [g, go, gt] w ((w.drewN k).setCell ⟨gt, 0, none⟩ (.int .u8 x0)) := ((Fr.refl _ w).drewN k).set_ (.inl (by simp)) _
    exact ⟨rfl, q1.alloc o1, ⟨_, _, ((Hg.out.drewN k).far (p := ⟨gt, 0, none⟩) h2 _).alloc _, hc, hm, by simp; omega, (q1.alloc o1).bin hb (by simp; omega), hx⟩, ((Ho.out.drewN k).far (p := ⟨gt, 0, none⟩) h3 _).alloc _, x0, ((Ht.out.drewN k).set_ 0 _).alloc _⟩
  clear hg ho ht hb hh hn hx hcell hbad
  rcases hbad' with h0 | ⟨h0, h4⟩ | ⟨h0, h4, h5⟩
  · subst h0
    go_enter Try.func90, Try.ntmps90
    go_wp2_with fail
    go_quiet (fail)
    go_wp2_with fail
    go_ret
    exact (K _ _).out
  · have t4 : ((m : Int) == 0) = false := by simp; omega
    go_enter Try.func90, Try.ntmps90
    go_wp2_with fail
    go_quiet (fail)
    go_wp2_with fail
    go_ret
    exact (K _ _).out
  · have t4 : ((m : Int) == 0) = false := by simp; omega
    have t5 : ¬ (4 : Int) < (m : Int) := by omega
    have t6 : (n : Int) < 2 + (m : Int) := by omega
    go_enter Try.func90, Try.ntmps90
    go_wp2_with fail
    go_quiet (fail)
    go_wp2_with fail
    go_ret
    exact (K _ _).out

set_option maxRecDepth 100000 in
set_option maxHeartbeats 3200000 in
theorem readASN1_long (skip : Bool) (g go gt : Nat) (tO : TypeId) (htO : skip = true → tO = 74) (vo : Value) (b o n c m : Nat) (x0 : Int) (r : List Int) (z : Int) (B : Nat) (w : World)
    (I : LongIn g go gt tO vo b o n c m x0 r z B w) (hm0 : 0 < m) (hm4 : m ≤ 4) (hmr : m ≤ r.length) (Hbig : Lim n) :
    Calls Try.prog 90 #[.pointer (some ⟨g, 0, none⟩), .pointer (some ⟨go, 0, none⟩), .pointer (some ⟨gt, 0, none⟩), .bool skip] w
      (DerPost skip B g go gt tO n (x0 :: (128 + (m : Int)) :: r) vo w) := by
  obtain ⟨hg, ho, ht, h1, h2, h3, hB, hBo, hBt, hn, hc, hm, hb, hx, hh, hm128⟩ := I
  obtain ⟨b', o', e, hbB, hcell⟩ := hb (by simp)
  injection e with e; injection e with e1 e2; subst e1; subst e2
  have e0 : w.cell? ⟨b, o, none⟩ = some (.int .u8 x0) := hcell 0 (by simp)
  have e1 : w.cell? ⟨b, o + 1, none⟩ = some (.int .u8 (128 + (m : Int))) := hcell 1 (by simp)
  obtain ⟨l0, l1⟩ := hx x0 (by simp)
  have t1 : (x0 % 32 == 31) = false := by simp; exact hh
  have t2 : (bits .and .u8 (128 + (m : Int)) 128 == 0) = false := by rw [and128 (by omega) (by omega), if_neg (by omega)]; rfl
  have t3 : bits .and .u8 (128 + (m : Int)) 127 = m := by rw [and127 (by omega) (by omega)]; omega
  have g0 := hg.one
  have of := ht.one
  have tf := ht.frozen 0
  have hgt : ¬ gt = g := fun e => h2 e.symm
  have hgs : ¬ g = w.heap.size := by have := hg.lt; omega
  have hgs2 : g < w.heap.size := hg.lt
  have hos2 : go < w.heap.size := ho.lt
  have hts2 : gt < w.heap.size := ht.lt
  have hbg : ¬ b = g := by omega
  have hbt : ¬ b = gt := by omega
  have hc2 : ¬ c = 2 := by omega
  have i2 : (2 : Int) ≤ (n : Int) := by omega
  have i1 : (1 : Int) < (n : Int) := by omega
  have i0 : (0 : Int) < (n : Int) := by omega
  have Hn := Lib.hid hn
  have Hg := Lib.hid hg
  have Ho := Lib.hid ho
  have Ht := Lib.hid ht
  have Hb := Lib.hid hb
  have Hx := Lib.hid hx
  have Hh := Lib.hid hh
  have t4 : ((m : Int) == 0) = false := by simp; omega
  have t5 : ¬ (4 : Int) < (m : Int) := by omega
  have t6 : ¬ (n : Int) < 2 + (m : Int) := by omega
  clear hg ho ht hb hh hn hx hcell
  go_enter Try.func90, Try.ntmps90
  go_wp2_with fail
  go_quiet (fail)
  go_wp2_with fail
  obtain ⟨w2, hw2⟩ : ∃ w2, w2 = (((w.drewN nq).setCell ⟨gt, 0, none⟩ (.int .u8 x0)).alloc (.cells #[.int .u32 0] 110)).alloc (.cells #[.slice (some ⟨b, o + 2, none⟩) m (c - 2)] 74) := ⟨_, rfl⟩
  rw [← hw2]
  have q1 : Fr [g, go, gt] w w2 := by rw [hw2]; exact ((((Fr.refl _ w).drewN nq).set_ (.inl (by simp)) _).alloc _).alloc _
  have q2 : Blk w2 g 74 #[.slice (some ⟨b, o, none⟩) n c] := by rw [hw2]; exact (((Hg.out.drewN nq).far (p := ⟨gt, 0, none⟩) h2 _).alloc _).alloc _
  have q3 : Blk w2 go tO #[vo] := by rw [hw2]; exact (((Ho.out.drewN nq).far (p := ⟨gt, 0, none⟩) h3 _).alloc _).alloc _
  have q4 : Blk w2 gt 80 #[.int .u8 x0] := by rw [hw2]; exact (((Ht.out.drewN nq).set_ 0 _).alloc _).alloc _
  have q5 : Blk w2 w.heap.size 110 #[.int .u32 0] := by rw [hw2]; exact (Blk.new' (by simp [World.setCell, World.drewN]) _ _).alloc _
  have q6 : Blk w2 (w.heap.size + 1) 74 #[.slice (some ⟨b, o + 2, none⟩) m (c - 2)] := by rw [hw2]; exact Blk.new' (by simp [World.setCell, World.drewN]) _ _
  clear hw2
  have hb2 : BIn w2 B (some ⟨b, o + 2, none⟩) (r.take m) := by
    have := (q1.bin (Hb.out.cut (c := c) (k := 2) (by have := Hn.out; simp; omega)) (by simp; omega)).take m
    unfold cutA at this
    rw [if_neg hc2] at this
    simpa [add_plain'] using this
  have hlt : (r.take m).length = m := by rw [List.length_take]; omega
  refine (readUnsigned_yes (w.heap.size + 1) w.heap.size ⟨b, o + 2, none⟩ m (c - 2) m (r.take m) 0 B w2 q6 q5 (by omega) hlt (Nat.le_refl _) hm4 (by omega) (by omega) hb2 (by omega) (by omega) ((Hx.out.drop 2).take m)).mono ?_
  rintro e w3 ⟨rfl, p1, p2, p3⟩
  have L0 := num_small (r.take m) 4 ((Hx.out.drop 2).take m) (by omega)
  have Lz := lead_zero ((Hx.out.drop 2)) hm0 hmr
  rw [List.take_take, Nat.min_self] at p3
  obtain ⟨L, hL⟩ := Int.eq_ofNat_of_zero_le L0.1
  have L1 : (L : Int) < 4294967296 := by have := L0.2; rw [hL] at this; simpa using this
  rw [hL] at p3
  have hn := Hn.out
  have hx := Hx.out
  have f3 : Fr [g, go, gt] w w3 := q1.trans p1 (by simp)
  have s3g : Blk w3 g 74 #[.slice (some ⟨b, o, none⟩) n c] := p1.blk q2 (by simp; omega)
  have s3o : Blk w3 go tO #[vo] := p1.blk q3 (by simp; omega)
  have s3t : Blk w3 gt 80 #[.int .u8 x0] := p1.blk q4 (by simp; omega)
  have N3 := Lib.hid (show first (x0 :: (128 + (m : Int)) :: r) = none → DerPost skip B g go gt tO n (x0 :: (128 + (m : Int)) :: r) vo w (.returned (.bool false)) w3 from
    fun hf => .inl ⟨hf, rfl, f3, ⟨_, _, s3g, hc, hm, by simp; omega, f3.bin Hb.out (by simp; omega), hx⟩, s3o, x0, s3t⟩)
  have FN := fun D hD h => Lib.hid (first_long_no (D := D) (n := n) hn (hx.drop 2) Hh.out hm0 hm4 hmr hL hD h)
  have FY := fun D hD h1 h2 h3 => Lib.hid (first_long_yes (D := D) (n := n) hn (hx.drop 2) Hh.out hm0 hm4 hmr hL hD h1 h2 h3)
  have Y := Lib.hid (show ∀ k, k = 2 + m + L → k ≤ n → first (x0 :: (128 + (m : Int)) :: r) = some (x0, 2 + m, k) → ∀ w4 : World, Fr [g, go] w3 w4 → Blk w4 g 74 #[.slice (cutA (some ⟨b, o, none⟩) c k) (n - k) (c - k)] →
      Blk w4 go tO #[if skip then .slice (cutA (some ⟨b, o, none⟩) c (2 + m)) L (c - (2 + m)) else .slice (some ⟨b, o, none⟩) k c] → DerPost skip B g go gt tO n (x0 :: (128 + (m : Int)) :: r) vo w (.returned (.bool true)) w4 from by
    intro k hk hkn hf w4 p4 y1 y2
    have f4 : Fr [g, go, gt] w w4 := (f3.trans p4 (by simp)).mono (by simp)
    have hl2 : (x0 :: (128 + (m : Int)) :: r).length = n := by simp; omega
    have hl3 : ((x0 :: (128 + (m : Int)) :: r).take k).length = k := by rw [List.length_take]; omega
    refine .inr ⟨x0, 2 + m, k, hf, rfl, f4, ⟨_, _, y1, by omega, by omega, by rw [List.length_drop, hl2], f4.bin (Hb.out.cut (by omega)) (by simp; omega), hx.drop _⟩, ?_, p4.blk s3t (by simp; omega)⟩
    cases skip
    · simp only [if_false, Bool.false_eq_true] at y2 ⊢
      exact ⟨_, _, y2, by omega, hm, hl3, f4.bin (Hb.out.take _) (by simp; omega), hx.take _⟩
    · simp only [if_true] at y2 ⊢
      rw [show k - (2 + m) = L by omega]
      exact ⟨_, _, y2, by omega, by omega, by rw [List.length_drop, hl3]; omega, f4.bin ((Hb.out.take _).cut (by omega)) (by simp; omega), (hx.take _).drop _⟩)
  have FN' := Lib.hid FN
  have FY' := Lib.hid FY
  clear hL Lz L0 hb2 hlt q5 q6 FN FY hn hx
  have u0 := p3.one
  have hm5 : m = 1 ∨ m = 2 ∨ m = 3 ∨ m = 4 := by omega
  by_cases hL1 : L < 128
  · clear hm5 L1
    have hL2 : (L : Int) < 128 := by omega
    go_wp2_with fail
    go_ret
    exact N3.out ((FN'.out _ rfl (.inl hL1)).out)
  · have hL2 : ¬ (L : Int) < 128 := by omega
    clear t2 t3 t4 t5 t6 e0 e1 of tf g0
    have OV := Lib.hid (show ∀ d : Int, 0 ≤ d → d ≤ 6 → (d + (L : Int)) % 4294967296 < (L : Int) → n < 2 + m + L from fun d d0 d1 d2 => by have := Hbig.out; omega)
    clear L1
    rcases hm5 with rfl | rfl | rfl | rfl
    · have FN := Lib.hid (FN'.out 1 (by rfl))
      have FY := Lib.hid (FY'.out 1 (by rfl) hL1)
      clear FN' FY'
      go_wp2_with fail
      · go_ret
        exact N3.out (FN.out (.inr (.inr (OV.out 3 (by omega) (by omega) (by assumption))))).out
      · rw [show (3 + (L : Int)) = ((3 + L : Nat) : Int) from by omega]
        by_cases hle : n < 3 + L
        · refine (readBytes_no g go (some ⟨b, o, none⟩) n c _ w3 s3g (.inr (by omega))).mono ?_
          rintro e w4 ⟨rfl, rfl⟩
          go_wp2
          go_ret
          exact N3.out (FN.out (.inr (.inr (by omega)))).out
        · have hY := Lib.hid (FY.out (by omega) (by omega)).out
          cases skip
          · refine (readBytes_yes g go tO vo ⟨b, o, none⟩ n c (3 + L) w3 s3g s3o h1 (by omega) hc hm).mono ?_
            rintro e w4 ⟨rfl, y1, y2, y3⟩
            go_wp2
            go_ret
            exact Y.out (3 + L) (by omega) (by omega) hY.out w4 y1 y2 y3
          · obtain rfl := htO rfl
            refine (readBytes_yes g go 74 vo ⟨b, o, none⟩ n c (3 + L) w3 s3g s3o h1 (by omega) hc hm).mono ?_
            rintro e w4 ⟨rfl, y1, y2, y3⟩
            go_wp2_with fail
            refine (skip_yes go ⟨b, o, none⟩ (3 + L) c 3 w4 y3 (by omega) (by omega) hm).mono ?_
            rintro e w5 ⟨rfl, rfl⟩
            go_wp2
            go_ret
            exact Y.out (3 + L) (by omega) (by omega) hY.out _ (y1.trans ((Fr.refl [go] w4).set_ (p := ⟨go, 0, none⟩) (.inl (by simp)) _) (by simp)) (y2.far (p := ⟨go, 0, none⟩) h1 _) (y3.set_ 0 _)
    · have FN := Lib.hid (FN'.out 256 (by rfl))
      have FY := Lib.hid (FY'.out 256 (by rfl) hL1)
      clear FN' FY'
      go_wp2_with fail
      · go_ret
        exact N3.out (FN.out (.inr (.inl (by have h : ((L : Int) / 256 == 0) = true := by assumption
                                             simpa using h)))).out
      · go_ret
        exact N3.out (FN.out (.inr (.inr (OV.out 4 (by omega) (by omega) (by assumption))))).out
      · have hz : ((L : Int) / 256 == 0) = false := by assumption
        rw [show (4 + (L : Int)) = ((4 + L : Nat) : Int) from by omega]
        by_cases hle : n < 4 + L
        · refine (readBytes_no g go (some ⟨b, o, none⟩) n c _ w3 s3g (.inr (by omega))).mono ?_
          rintro e w4 ⟨rfl, rfl⟩
          go_wp2
          go_ret
          exact N3.out (FN.out (.inr (.inr (by omega)))).out
        · have hY := Lib.hid (FY.out (by simpa using hz) (by omega)).out
          cases skip
          · refine (readBytes_yes g go tO vo ⟨b, o, none⟩ n c (4 + L) w3 s3g s3o h1 (by omega) hc hm).mono ?_
            rintro e w4 ⟨rfl, y1, y2, y3⟩
            go_wp2
            go_ret
            exact Y.out (4 + L) (by omega) (by omega) hY.out w4 y1 y2 y3
          · obtain rfl := htO rfl
            refine (readBytes_yes g go 74 vo ⟨b, o, none⟩ n c (4 + L) w3 s3g s3o h1 (by omega) hc hm).mono ?_
            rintro e w4 ⟨rfl, y1, y2, y3⟩
            go_wp2_with fail
            refine (skip_yes go ⟨b, o, none⟩ (4 + L) c 4 w4 y3 (by omega) (by omega) hm).mono ?_
            rintro e w5 ⟨rfl, rfl⟩
            go_wp2
            go_ret
            exact Y.out (4 + L) (by omega) (by omega) hY.out _ (y1.trans ((Fr.refl [go] w4).set_ (p := ⟨go, 0, none⟩) (.inl (by simp)) _) (by simp)) (y2.far (p := ⟨go, 0, none⟩) h1 _) (y3.set_ 0 _)
    · have FN := Lib.hid (FN'.out 65536 (by rfl))
      have FY := Lib.hid (FY'.out 65536 (by rfl) hL1)
      clear FN' FY'
      go_wp2_with fail
      · go_ret
        exact N3.out (FN.out (.inr (.inl (by have h : ((L : Int) / 65536 == 0) = true := by assumption
                                             simpa using h)))).out
      · go_ret
        exact N3.out (FN.out (.inr (.inr (OV.out 5 (by omega) (by omega) (by assumption))))).out
      · have hz : ((L : Int) / 65536 == 0) = false := by assumption
        rw [show (5 + (L : Int)) = ((5 + L : Nat) : Int) from by omega]
        by_cases hle : n < 5 + L
        · refine (readBytes_no g go (some ⟨b, o, none⟩) n c _ w3 s3g (.inr (by omega))).mono ?_
          rintro e w4 ⟨rfl, rfl⟩
          go_wp2
          go_ret
          exact N3.out (FN.out (.inr (.inr (by omega)))).out
        · have hY := Lib.hid (FY.out (by simpa using hz) (by omega)).out
          cases skip
          · refine (readBytes_yes g go tO vo ⟨b, o, none⟩ n c (5 + L) w3 s3g s3o h1 (by omega) hc hm).mono ?_
            rintro e w4 ⟨rfl, y1, y2, y3⟩
            go_wp2
            go_ret
            exact Y.out (5 + L) (by omega) (by omega) hY.out w4 y1 y2 y3
          · obtain rfl := htO rfl
            refine (readBytes_yes g go 74 vo ⟨b, o, none⟩ n c (5 + L) w3 s3g s3o h1 (by omega) hc hm).mono ?_
            rintro e w4 ⟨rfl, y1, y2, y3⟩
            go_wp2_with fail
            refine (skip_yes go ⟨b, o, none⟩ (5 + L) c 5 w4 y3 (by omega) (by omega) hm).mono ?_
            rintro e w5 ⟨rfl, rfl⟩
            go_wp2
            go_ret
            exact Y.out (5 + L) (by omega) (by omega) hY.out _ (y1.trans ((Fr.refl [go] w4).set_ (p := ⟨go, 0, none⟩) (.inl (by simp)) _) (by simp)) (y2.far (p := ⟨go, 0, none⟩) h1 _) (y3.set_ 0 _)
    · have FN := Lib.hid (FN'.out 16777216 (by rfl))
      have FY := Lib.hid (FY'.out 16777216 (by rfl) hL1)
      clear FN' FY'
      go_wp2_with fail
      · go_ret
        exact N3.out (FN.out (.inr (.inl (by have h : ((L : Int) / 16777216 == 0) = true := by assumption
                                             simpa using h)))).out
      · go_ret
        exact N3.out (FN.out (.inr (.inr (OV.out 6 (by omega) (by omega) (by assumption))))).out
      · have hz : ((L : Int) / 16777216 == 0) = false := by assumption
        rw [show (6 + (L : Int)) = ((6 + L : Nat) : Int) from by omega]
        by_cases hle : n < 6 + L
        · refine (readBytes_no g go (some ⟨b, o, none⟩) n c _ w3 s3g (.inr (by omega))).mono ?_
          rintro e w4 ⟨rfl, rfl⟩
          go_wp2
          go_ret
          exact N3.out (FN.out (.inr (.inr (by omega)))).out
        · have hY := Lib.hid (FY.out (by simpa using hz) (by omega)).out
          cases skip
          · refine (readBytes_yes g go tO vo ⟨b, o, none⟩ n c (6 + L) w3 s3g s3o h1 (by omega) hc hm).mono ?_
            rintro e w4 ⟨rfl, y1, y2, y3⟩
            go_wp2
            go_ret
            exact Y.out (6 + L) (by omega) (by omega) hY.out w4 y1 y2 y3
          · obtain rfl := htO rfl
            refine (readBytes_yes g go 74 vo ⟨b, o, none⟩ n c (6 + L) w3 s3g s3o h1 (by omega) hc hm).mono ?_
            rintro e w4 ⟨rfl, y1, y2, y3⟩
            go_wp2_with fail
            refine (skip_yes go ⟨b, o, none⟩ (6 + L) c 6 w4 y3 (by omega) (by omega) hm).mono ?_
            rintro e w5 ⟨rfl, rfl⟩
            go_wp2
            go_ret
            exact Y.out (6 + L) (by omega) (by omega) hY.out _ (y1.trans ((Fr.refl [go] w4).set_ (p := ⟨go, 0, none⟩) (.inl (by simp)) _) (by simp)) (y2.far (p := ⟨go, 0, none⟩) h1 _) (y3.set_ 0 _)
end Go.Proofs.Ytdnepnnkpaoaaaa
