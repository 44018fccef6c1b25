/- The contract of (*String).readASN1: it reads just what 'first' tells. -/
import Derived.Test.YtdnepnnkpaoaaaaDer0
import Derived.Test.YtdnepnnkpaoaaaaMA
import Derived.Outline
namespace Go.Proofs.Ytdnepnnkpaoaaaa
open Go.RowKit
set_option linter.unusedVariables false

/-- What a reading of an element leaves, where there is one. -/
def DerYes (B g go gt : Nat) (tO : TypeId) (n : Nat) (xs : List Int) (m : Nat) (out : List Int) (t : Int) (w : World) (e : Ending) (w' : World) : Prop :=
  e = .returned (.bool true) ∧ Fr [g, go, gt] w w' ∧ SlB w' B g 74 n xs ∧ SlB w' B go tO m out ∧ Blk w' gt 80 #[.int .u8 t]
/-- .. and where there is none. -/
def DerNo (B g go gt : Nat) (tO : TypeId) (n : Nat) (xs : List Int) (vo : Value) (w : World) (e : Ending) (w' : World) : Prop :=
  e = .returned (.bool false) ∧ Fr [g, go, gt] w w' ∧ SlB w' B g 74 n xs ∧ Blk w' go tO #[vo] ∧ ∃ t : Int, Blk w' gt 80 #[.int .u8 t]

/-- What a reading of an element leaves, as 'first' tells it. -/
def DerPost (skip : Bool) (B g go gt : Nat) (tO : TypeId) (n : Nat) (xs : List Int) (vo : Value) (w : World) (e : Ending) (w' : World) : Prop :=
  (first xs = none ∧ DerNo B g go gt tO n xs vo w e w') ∨
  ∃ t b k, first xs = some (t, b, k) ∧ DerYes B g go gt tO (n - k) (xs.drop k) (if skip then k - b else k) (if skip then (xs.take k).drop b else xs.take k) t w e w'

theorem and31 {x : Int} (h0 : 0 ≤ x) (h1 : x < 256) : bits .and .u8 x 31 = x % 32 := by
  rw [u8_and x 31 h0 h1 (by omega) (by omega)]
  have h : x.toNat &&& (31 : Int).toNat = x.toNat % 32 := nat_mask5 x.toNat
  rw [h]; omega
theorem and127 {x : Int} (h0 : 0 ≤ x) (h1 : x < 256) : bits .and .u8 x 127 = x % 128 := by
  rw [u8_and x 127 h0 h1 (by omega) (by omega)]
  have h : x.toNat &&& (127 : Int).toNat = x.toNat % 128 := nat_mask7 x.toNat
  rw [h]; omega
theorem and128 {x : Int} (h0 : 0 ≤ x) (h1 : x < 256) : bits .and .u8 x 128 = if x < 128 then 0 else 128 := by
  rw [u8_and x 128 h0 h1 (by omega) (by omega)]
  have h : x.toNat &&& (128 : Int).toNat = x.toNat / 2 ^ 7 % 2 * 2 ^ 7 := nat_bit 7 x.toNat
  rw [h]
  split <;> omega

set_option maxRecDepth 100000 in
set_option maxHeartbeats 1600000 in
theorem readASN1_short (skip : Bool) (g go gt : Nat) (tO : TypeId) (htO : skip = true → tO = 74) (vo : Value) (b o n c k m : Nat) (x0 : Int) (r rest out : List Int) (z : Int) (B : Nat) (w : World)
    (hg : Blk w g 74 #[.slice (some ⟨b, o, none⟩) n c]) (ho : Blk w go tO #[vo]) (ht : Blk w gt 80 #[.int .u8 z]) (h1 : g ≠ go) (h2 : g ≠ gt) (h3 : go ≠ gt)
    (hB : B ≤ g) (hBo : B ≤ go) (hBt : B ≤ gt) (hn : r.length + 2 = n) (hc : n ≤ c) (hm : c ≤ maxLen) (hb : BIn w B (some ⟨b, o, none⟩) (x0 :: (k : Int) :: r)) (hx : Byt (x0 :: (k : Int) :: r))
    (hh : x0 % 32 ≠ 31) (hl : k < 128) (hle : k + 2 ≤ n) (hrest : rest = (x0 :: (k : Int) :: r).drop (k + 2)) (hm' : m = if skip then k else k + 2) (hout : out = if skip then ((x0 :: (k : Int) :: r).take (k + 2)).drop 2 else (x0 :: (k : Int) :: r).take (k + 2)) :
    Calls Try.prog 90 #[.pointer (some ⟨g, 0, none⟩), .pointer (some ⟨go, 0, none⟩), .pointer (some ⟨gt, 0, none⟩), .bool skip] w
      (DerYes B g go gt tO (n - (k + 2)) rest m out x0 w) := by
  obtain ⟨b', o', e, hbB, hcell⟩ := hb (by simp)
  injection e with e; injection e with e1 e2; subst e1; subst e2
  have e0 : w.cell? ⟨b, o, none⟩ = some (.int .u8 x0) := hcell 0 (by simp)
  have e1 : w.cell? ⟨b, o + 1, none⟩ = some (.int .u8 k) := hcell 1 (by simp)
  obtain ⟨l0, l1⟩ := hx x0 (by simp)
  have t1 : (x0 % 32 == 31) = false := by simp; exact hh
  have t2 : (bits .and .u8 (k : Int) 128 == 0) = true := by rw [and128 (by omega) (by omega), if_pos (by omega)]; rfl
  have g0 := hg.one
  have of := ht.one
  have tf := ht.frozen 0
  have hbg : ¬ b = g := by omega
  have hbo : ¬ b = go := by omega
  have hbt : ¬ b = gt := by omega
  have i2 : (2 : Int) ≤ (n : Int) := by omega
  have i1 : (1 : Int) < (n : Int) := by omega
  have i0 : (0 : Int) < (n : Int) := by omega
  have Hn := Lib.hid hn
  have Hg := Lib.hid hg
  have Ho := Lib.hid ho
  have Ht := Lib.hid ht
  have Y := Lib.hid (show Byt rest ∧ Byt out ∧ rest.length = n - (k + 2) ∧ out.length = m ∧ m ≤ k + 2 ∧ BIn w B (cutA (some ⟨b, o, none⟩) c (k + 2)) rest ∧ BIn w B (if skip then cutA (some ⟨b, o, none⟩) c 2 else some ⟨b, o, none⟩) out by
    have hl2 : (x0 :: (k : Int) :: r).length = n := by simp; omega
    have hl3 : ((x0 :: (k : Int) :: r).take (k + 2)).length = k + 2 := by rw [List.length_take]; omega
    subst hrest; subst hout; subst hm'
    refine ⟨hx.drop _, ?_, by rw [List.length_drop, hl2], ?_, ?_, hb.cut (by omega), ?_⟩ <;> cases skip <;> simp only [if_true, if_false, Bool.false_eq_true]
    · exact hx.take _
    · exact (hx.take _).drop _
    · exact hl3
    · rw [List.length_drop, hl3]; omega
    · omega
    · omega
    · exact hb.take _
    · exact (hb.take _).cut (by omega))
  clear hg ho ht hb hh hn hx hrest hout hcell
  cases skip
  · simp only [if_false, Bool.false_eq_true] at hm' Y
    subst hm'
    go_enter Try.func90, Try.ntmps90
    go_wp2_with fail
    go_quiet (fail)
    go_wp2_with fail
    have q1 : Fr [g, go, gt] w ((w.drewN nq).setCell ⟨gt, 0, none⟩ (.int .u8 x0)) := ((Fr.refl _ w).drewN nq).set_ (.inl (by simp)) _
    have q2 : Blk ((w.drewN nq).setCell ⟨gt, 0, none⟩ (.int .u8 x0)) g 74 #[.slice (some ⟨b, o, none⟩) n c] := (Hg.out.drewN nq).far (p := ⟨gt, 0, none⟩) h2 _
    have q3 : Blk ((w.drewN nq).setCell ⟨gt, 0, none⟩ (.int .u8 x0)) go tO #[vo] := (Ho.out.drewN nq).far (p := ⟨gt, 0, none⟩) h3 _
    have q4 : Blk ((w.drewN nq).setCell ⟨gt, 0, none⟩ (.int .u8 x0)) gt 80 #[.int .u8 x0] := (Ht.out.drewN nq).set_ 0 _
    generalize (w.drewN nq).setCell ⟨gt, 0, none⟩ (.int .u8 x0) = w1 at *
    rw [show ((k : Int) + 2) = ((k + 2 : Nat) : Int) from by omega]
    refine (readBytes_yes g go tO vo ⟨b, o, none⟩ n c (k + 2) w1 q2 q3 h1 hle hc hm).mono ?_
    rintro e w2 ⟨rfl, p1, p2, p3⟩
    go_wp2
    go_ret
    obtain ⟨y1, y2, y3, y4, y5, y6, y7⟩ := Y.out
    exact ⟨rfl, (q1.trans p1 (by simp)).mono (by simp), ⟨_, _, p2, by omega, by omega, y3, p1.bin (q1.bin y6 (by simp; omega)) (by simp; omega), y1⟩, ⟨_, _, p3, by omega, hm, y4, p1.bin (q1.bin y7 (by simp; omega)) (by simp; omega), y2⟩, p1.blk q4 (by simp; omega)⟩
  · obtain rfl := htO rfl
    simp only [if_true] at hm' Y
    have hm2 := hm'.symm
    clear hm'
    subst hm2
    go_enter Try.func90, Try.ntmps90
    go_wp2_with fail
    go_quiet (fail)
    go_wp2_with fail
    have q1 : Fr [g, go, gt] w ((w.drewN nq).setCell ⟨gt, 0, none⟩ (.int .u8 x0)) := ((Fr.refl _ w).drewN nq).set_ (.inl (by simp)) _
    have q2 : Blk ((w.drewN nq).setCell ⟨gt, 0, none⟩ (.int .u8 x0)) g 74 #[.slice (some ⟨b, o, none⟩) n c] := (Hg.out.drewN nq).far (p := ⟨gt, 0, none⟩) h2 _
    have q3 : Blk ((w.drewN nq).setCell ⟨gt, 0, none⟩ (.int .u8 x0)) go 74 #[vo] := (Ho.out.drewN nq).far (p := ⟨gt, 0, none⟩) h3 _
    have q4 : Blk ((w.drewN nq).setCell ⟨gt, 0, none⟩ (.int .u8 x0)) gt 80 #[.int .u8 x0] := (Ht.out.drewN nq).set_ 0 _
    generalize (w.drewN nq).setCell ⟨gt, 0, none⟩ (.int .u8 x0) = w1 at *
    rw [show ((k : Int) + 2) = ((k + 2 : Nat) : Int) from by omega]
    refine (readBytes_yes g go 74 vo ⟨b, o, none⟩ n c (k + 2) w1 q2 q3 h1 hle hc hm).mono ?_
    rintro e w2 ⟨rfl, p1, p2, p3⟩
    go_wp2_with fail
    refine (skip_yes go ⟨b, o, none⟩ (k + 2) c 2 w2 p3 (by omega) (by omega) hm).mono ?_
    rintro e w3 ⟨rfl, rfl⟩
    go_wp2
    go_ret
    obtain ⟨y1, y2, y3, y4, y5, y6, y7⟩ := Y.out
    have p4 : Fr [g, go] w2 (w2.setCell ⟨go, 0, none⟩ (.slice (cutA (some ⟨b, o, none⟩) c 2) k (c - 2))) := (Fr.refl _ w2).set_ (.inl (by simp)) _
    have p5 := p1.trans p4 (by simp)
    exact ⟨rfl, (q1.trans p5 (by simp)).mono (by simp), ⟨_, _, p2.far (p := ⟨go, 0, none⟩) h1 _, by omega, by omega, y3, p5.bin (q1.bin y6 (by simp; omega)) (by simp; omega), y1⟩, ⟨_, _, p3.set_ 0 _, by omega, by omega, y4, p5.bin (q1.bin y7 (by simp; omega)) (by simp; omega), y2⟩, p5.blk q4 (by simp; omega)⟩

theorem readASN1_lt2 (skip : Bool) (g go gt : Nat) (a : Option Addr) (n c : Nat) (w : World) (hg : Blk w g 74 #[.slice a n c]) (h : n < 2) :
    Calls Try.prog 90 #[.pointer (some ⟨g, 0, none⟩), .pointer (some ⟨go, 0, none⟩), .pointer (some ⟨gt, 0, none⟩), .bool skip] w fun e w' => e = .returned (.bool false) ∧ w = w' := by
  have g0 := hg.one
  have i2 : ¬ (2 : Int) ≤ (n : Int) := by omega
  clear hg
  go_enter Try.func90, Try.ntmps90
  go_wp2
  go_ret
  exact ⟨rfl, rfl⟩

set_option maxRecDepth 100000 in
set_option maxHeartbeats 1600000 in
theorem readASN1_high (skip : Bool) (g go gt : Nat) (tO : TypeId) (vo : Value) (b o n c : Nat) (x0 x1 : Int) (r : List Int) (z : Int) (B : Nat) (w : World)
    (hg : Blk w g 74 #[.slice (some ⟨b, o, none⟩) n c]) (ho : Blk w go tO #[vo]) (ht : Blk w gt 80 #[.int .u8 z])
    (hn : r.length + 2 = n) (hc : n ≤ c) (hm : c ≤ maxLen) (hb : BIn w B (some ⟨b, o, none⟩) (x0 :: x1 :: r)) (hx : Byt (x0 :: x1 :: r)) (hh : x0 % 32 = 31) :
    Calls Try.prog 90 #[.pointer (some ⟨g, 0, none⟩), .pointer (some ⟨go, 0, none⟩), .pointer (some ⟨gt, 0, none⟩), .bool skip] w
      (DerNo B g go gt tO n (x0 :: x1 :: r) vo w) := by
  obtain ⟨b', o', e, hbB, hcell⟩ := hb (by simp)
  injection e with e; injection e with e1 e2; subst e1; subst e2
  have e0 : w.cell? ⟨b, o, none⟩ = some (.int .u8 x0) := hcell 0 (by simp)
  have e1 : w.cell? ⟨b, o + 1, none⟩ = some (.int .u8 x1) := hcell 1 (by simp)
  obtain ⟨l0, l1⟩ := hx x0 (by simp)
  have t1 : (x0 % 32 == 31) = true := by simp; exact hh
  have g0 := hg.one
  have i2 : (2 : Int) ≤ (n : Int) := by omega
  have i1 : (1 : Int) < (n : Int) := by omega
  have i0 : (0 : Int) < (n : Int) := by omega
  have Hn := Lib.hid hn
  have Hg := Lib.hid hg
  have Ho := Lib.hid ho
  have Ht := Lib.hid ht
  have Hb := Lib.hid hb
  have Hx := Lib.hid hx
  clear hg ho ht hb hh hn hx hcell
  go_enter Try.func90, Try.ntmps90
  go_wp2_with fail
  go_quiet (fail)
  go_wp2
  go_ret
  exact ⟨rfl, (Fr.refl _ _).drewN _, ⟨_, _, Hg.out.drewN _, hc, hm, by have := Hn.out; simp; omega, Hb.out, Hx.out⟩, Ho.out.drewN _, z, Ht.out.drewN _⟩

set_option maxRecDepth 100000 in
set_option maxHeartbeats 1600000 in
theorem readASN1_shortno (skip : Bool) (g go gt : Nat) (tO : TypeId) (vo : Value) (b o n c k : Nat) (x0 : Int) (r : List Int) (z : Int) (B : Nat) (w : World)
    (hg : Blk w g 74 #[.slice (some ⟨b, o, none⟩) n c]) (ho : Blk w go tO #[vo]) (ht : Blk w gt 80 #[.int .u8 z]) (h1 : g ≠ go) (h2 : g ≠ gt) (h3 : go ≠ gt)
    (hB : B ≤ g) (hBo : B ≤ go) (hBt : B ≤ gt) (hn : r.length + 2 = n) (hc : n ≤ c) (hm : c ≤ maxLen) (hb : BIn w B (some ⟨b, o, none⟩) (x0 :: (k : Int) :: r)) (hx : Byt (x0 :: (k : Int) :: r))
    (hh : x0 % 32 ≠ 31) (hl : k < 128) (hle : n < k + 2) :
    Calls Try.prog 90 #[.pointer (some ⟨g, 0, none⟩), .pointer (some ⟨go, 0, none⟩), .pointer (some ⟨gt, 0, none⟩), .bool skip] w
      (DerNo B g go gt tO n (x0 :: (k : Int) :: r) vo w) := by
  obtain ⟨b', o', e, hbB, hcell⟩ := hb (by simp)
  injection e with e; injection e with e1 e2; subst e1; subst e2
  have e0 : w.cell? ⟨b, o, none⟩ = some (.int .u8 x0) := hcell 0 (by simp)
  have e1 : w.cell? ⟨b, o + 1, none⟩ = some (.int .u8 k) := hcell 1 (by simp)
  obtain ⟨l0, l1⟩ := hx x0 (by simp)
  have t1 : (x0 % 32 == 31) = false := by simp; exact hh
  have t2 : (bits .and .u8 (k : Int) 128 == 0) = true := by rw [and128 (by omega) (by omega), if_pos (by omega)]; rfl
  have g0 := hg.one
  have of := ht.one
  have tf := ht.frozen 0
  have hbg : ¬ b = g := by omega
  have hbt : ¬ b = gt := by omega
  have i2 : (2 : Int) ≤ (n : Int) := by omega
  have i1 : (1 : Int) < (n : Int) := by omega
  have i0 : (0 : Int) < (n : Int) := by omega
  have Hn := Lib.hid hn
  have Hg := Lib.hid hg
  have Ho := Lib.hid ho
  have Ht := Lib.hid ht
  have Hb := Lib.hid hb
  have Hx := Lib.hid hx
  clear hg ho ht hb hh hn hx hcell
  go_enter Try.func90, Try.ntmps90
  go_wp2_with fail
  go_quiet (fail)
  go_wp2_with fail
  have q1 : Fr [g, go, gt] w ((w.drewN nq).setCell ⟨gt, 0, none⟩ (.int .u8 x0)) := ((Fr.refl _ w).drewN nq).set_ (.inl (by simp)) _
  have q2 : Blk ((w.drewN nq).setCell ⟨gt, 0, none⟩ (.int .u8 x0)) g 74 #[.slice (some ⟨b, o, none⟩) n c] := (Hg.out.drewN nq).far (p := ⟨gt, 0, none⟩) h2 _
  have q3 : Blk ((w.drewN nq).setCell ⟨gt, 0, none⟩ (.int .u8 x0)) go tO #[vo] := (Ho.out.drewN nq).far (p := ⟨gt, 0, none⟩) h3 _
  have q4 : Blk ((w.drewN nq).setCell ⟨gt, 0, none⟩ (.int .u8 x0)) gt 80 #[.int .u8 x0] := (Ht.out.drewN nq).set_ 0 _
  generalize (w.drewN nq).setCell ⟨gt, 0, none⟩ (.int .u8 x0) = w1 at *
  refine (readBytes_no g go (some ⟨b, o, none⟩) n c _ w1 q2 (.inr (by omega))).mono ?_
  rintro e w2 ⟨rfl, rfl⟩
  go_wp2
  go_ret
  exact ⟨rfl, q1, ⟨_, _, q2, hc, hm, by have := Hn.out; simp; omega, q1.bin Hb.out (by simp; omega), Hx.out⟩, q3, x0, q4⟩
end Go.Proofs.Ytdnepnnkpaoaaaa
