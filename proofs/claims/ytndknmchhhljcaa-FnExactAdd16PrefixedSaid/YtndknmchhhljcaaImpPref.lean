/- The contracts of AddUint8LengthPrefixed to AddUint32LengthPrefixed, of the thin package's functions round them and of their closures, where the length fits. (Printed by gen_pref.py.) -/
import Derived.Test.YtndknmchhhljcaaLenAdd
namespace Go.Proofs.Ytndknmchhhljcaa
open Go.RowKit
set_option linter.unusedVariables false

set_option maxRecDepth 100000 in
set_option maxHeartbeats 800000 in
theorem add8P_clos (base gc rc p : Nat) (xs ys : List Int) (off pl : Int) (pa : Bool) (ic : Value) (a : Option Addr) (n c : Nat) (w : World)
    (hg : Bld w base gc xs off pl pa ic (some rc)) (hp : Blk w p 22 #[.slice a n c]) (hn : ys.length = n) (hy : BIn w w.heap.size a ys) (hl : xs.length + n ≤ 4194303000) (hb : base ≤ w.heap.size) :
    Calls Try.prog 106 #[.pointer (some ⟨gc, 0, none⟩), .pointer (some ⟨p, 0, none⟩)] w (AddPost base gc (xs ++ ys) off pl pa ic (some rc) w) := by
  have p0 := hp.one
  have Hn := Lib.hid hn
  have Hy := Lib.hid hy
  have Hg := Lib.hid hg
  clear hp hn hy hg
  go_enter Try.func106, Try.ntmps106
  go_wp2_with fail
  refine (copied_any a n c ys w Hn.out Hy.out (by omega)).mono ?_
  rintro e w1 ⟨a1, c1, rfl, p1, p2, p3, p4, p5, p6⟩
  have F1 := Fr.of_below p5 []
  have HF := Lib.hid F1
  have G1 := Lib.hid (Hg.out.keep F1)
  clear F1 p4 p6
  go_wp2_with fail
  refine (addBytes_any base gc xs ys off pl pa ic (some rc) a1 n c1 w1 G1.out Hn.out p3 (by omega) (Nat.le_trans hb p5.size)).mono ?_
  intro e w2 hq
  have hq' := Lib.hid (hq.from_ HF.out)
  obtain ⟨rfl, _⟩ := hq
  go_wp2
  go_end0
  exact hq'.out

set_option maxRecDepth 100000 in
set_option maxHeartbeats 1600000 in
theorem add8P_ok (base g p : Nat) (a : Option Addr) (n c : Nat) (ys : List Int) (w : World)
    (hg : Bld w base g [] 0 0 false (.pointer none) none) (hp : Blk w p 22 #[.slice a n c]) (hpg : p ≠ g) (hn : ys.length = n) (hy : BIn w base a ys) (hl : n ≤ 4194300000) (hL : n / 256 ^ 1 = 0) (hb : base ≤ w.heap.size) (hbg : base ≤ g) :
    Calls Try.prog 105 #[.pointer (some ⟨g, 0, none⟩), .func (.func 106) #[] #[.pointer (some ⟨p, 0, none⟩)]] w (ContAdd base g (bigB 1 n ++ ys) 0 0 false none w) := by
  have H := Lib.hid (addLP_ok base g 106 p 1 false false [] ys (bigB 1 n ++ ys) 0 0 none #[.int .u8 0] w hg (by simp; omega) (by omega) (by omega) hb (fun _ => by kernel_rfl) rfl (fun _ _ => by kernel_rfl)
    (fun gc rc ic w1 f1 b1 hb1 _ _ => add8P_clos base gc rc p ([] ++ List.replicate 1 0) ys _ _ _ _ a n c w1 b1 (f1.blk hp (by simp; exact hpg)) hn ((f1.bin hy (by simp; exact hbg)).more hb1) (by simp; omega) hb1)
    (fun gc rc ic icc vp w1 k1 b1 hne hb1 => flush_plain base g gc rc 1 n 0 [] ys 0 0 false ic icc vp w1 k1 b1 hne rfl hn (by omega) (by omega) (by omega) hL))
  clear hg hp hn hy
  go_enter Try.func105, Try.ntmps105
  go_wp2_with fail
  refine H.out.mono ?_
  intro e w1 hq
  have hq' := Lib.hid hq
  obtain ⟨ic, rfl, _⟩ := hq
  go_wp2
  go_end0
  exact hq'.out

set_option maxRecDepth 100000 in
set_option maxHeartbeats 1600000 in
theorem iAdd8P_ok (a : Option Addr) (n c : Nat) (ys : List Int) (w : World) (hn : ys.length = n) (hy : BIn w w.heap.size a ys) (hl : n ≤ 4194300) (hL : n / 256 ^ 1 = 0) :
    Calls Try.prog 58 #[.slice a n c] w (GotPost w (bigB 1 n ++ ys)) := by
  have hmf : ∀ (fn : Fn) (first cap : Array Value) (w : World), (Instr.makeFunc fn first cap).run Try.prog w = .ok (.func fn first cap) w := fun _ _ _ _ => rfl
  have Hn := Lib.hid hn
  have Hy := Lib.hid hy
  have HL := Lib.hid hL
  obtain ⟨X, hX⟩ : ∃ X, X = bigB 1 (n : Int) ++ ys := ⟨_, rfl⟩
  have HXl := Lib.hid (show X.length ≤ 4194304000 by rw [hX, List.length_append, bigB_len, hn]; omega)
  rw [← hX]
  have HX := Lib.hid hX
  clear hn hy hL hX
  go_enter Try.func58, Try.ntmps58
  go_wp2_with fail
  obtain ⟨w2, hw2⟩ : ∃ w2, w2 = (w.alloc (.cells #[.slice a n c] 22)).alloc (.cells (bCs (.slice none 0 0) 0 0 false (.pointer none)) 74) := ⟨_, rfl⟩
  have B2 : Bld w2 w.heap.size (w.heap.size + 1) [] 0 0 false (.pointer none) none := by rw [hw2]; exact ⟨_, Blk.new' (by simp) _ _, OwnB.nil _ _ _, rfl⟩
  have P2 : Blk w2 w.heap.size 22 #[.slice a n c] := by rw [hw2]; exact (Blk.new _ _ _).alloc _
  have F2 : Fr [] w w2 := by rw [hw2]; exact ((Fr.refl [] w).alloc _).alloc _
  rw [show (w.alloc (.cells #[.slice a n c] 22)).alloc (.cells #[.nilIface, .slice none 0 0, .bool false, .pointer none, .int .i64 0, .int .i64 0, .bool false, .pointer none] 74) = w2 from hw2.symm]
  clear hw2
  refine (add8P_ok w.heap.size (w.heap.size + 1) w.heap.size a n c ys w2 B2 P2 (by omega) Hn.out (F2.bin Hy.out (by simp)) (by omega) HL.out F2.size (by omega)).mono ?_
  rintro e w3 ⟨ic, rfl, rb, b3, f3, _⟩
  rw [← HX.out] at b3
  have F3 : Fr [w.heap.size + 1] w w3 := (F2.mono (by simp)).trans f3 (by simp)
  clear B2 P2 F2 f3
  go_wp2_with fail
  refine (bytesOf_ok _ _ _ _ _ _ _ _ b3 HXl.out).mono ?_
  rintro e w4 ⟨a4, c4, rfl, q1, q2, q3, q4⟩
  go_wp2
  go_ret2
  exact ⟨a4, c4, rfl, q1, q2, q3, (F3.below (B := w.heap.size) (by simp) (Nat.le_refl _)).trans (q4.mono F3.size)⟩

set_option maxRecDepth 100000 in
set_option maxHeartbeats 800000 in
theorem add16P_clos (base gc rc p : Nat) (xs ys : List Int) (off pl : Int) (pa : Bool) (ic : Value) (a : Option Addr) (n c : Nat) (w : World)
    (hg : Bld w base gc xs off pl pa ic (some rc)) (hp : Blk w p 22 #[.slice a n c]) (hn : ys.length = n) (hy : BIn w w.heap.size a ys) (hl : xs.length + n ≤ 4194303000) (hb : base ≤ w.heap.size) :
    Calls Try.prog 90 #[.pointer (some ⟨gc, 0, none⟩), .pointer (some ⟨p, 0, none⟩)] w (AddPost base gc (xs ++ ys) off pl pa ic (some rc) w) := by
  have p0 := hp.one
  have Hn := Lib.hid hn
  have Hy := Lib.hid hy
  have Hg := Lib.hid hg
  clear hp hn hy hg
  go_enter Try.func90, Try.ntmps90
  go_wp2_with fail
  refine (copied_any a n c ys w Hn.out Hy.out (by omega)).mono ?_
  rintro e w1 ⟨a1, c1, rfl, p1, p2, p3, p4, p5, p6⟩
  have F1 := Fr.of_below p5 []
  have HF := Lib.hid F1
  have G1 := Lib.hid (Hg.out.keep F1)
  clear F1 p4 p6
  go_wp2_with fail
  refine (addBytes_any base gc xs ys off pl pa ic (some rc) a1 n c1 w1 G1.out Hn.out p3 (by omega) (Nat.le_trans hb p5.size)).mono ?_
  intro e w2 hq
  have hq' := Lib.hid (hq.from_ HF.out)
  obtain ⟨rfl, _⟩ := hq
  go_wp2
  go_end0
  exact hq'.out

set_option maxRecDepth 100000 in
set_option maxHeartbeats 1600000 in
theorem add16P_ok (base g p : Nat) (a : Option Addr) (n c : Nat) (ys : List Int) (w : World)
    (hg : Bld w base g [] 0 0 false (.pointer none) none) (hp : Blk w p 22 #[.slice a n c]) (hpg : p ≠ g) (hn : ys.length = n) (hy : BIn w base a ys) (hl : n ≤ 4194300000) (hL : n / 256 ^ 2 = 0) (hb : base ≤ w.heap.size) (hbg : base ≤ g) :
    Calls Try.prog 89 #[.pointer (some ⟨g, 0, none⟩), .func (.func 90) #[] #[.pointer (some ⟨p, 0, none⟩)]] w (ContAdd base g (bigB 2 n ++ ys) 0 0 false none w) := by
  have H := Lib.hid (addLP_ok base g 90 p 2 false false [] ys (bigB 2 n ++ ys) 0 0 none #[.int .u8 0, .int .u8 0] w hg (by simp; omega) (by omega) (by omega) hb (fun _ => by kernel_rfl) rfl (fun _ _ => by kernel_rfl)
    (fun gc rc ic w1 f1 b1 hb1 _ _ => add16P_clos base gc rc p ([] ++ List.replicate 2 0) ys _ _ _ _ a n c w1 b1 (f1.blk hp (by simp; exact hpg)) hn ((f1.bin hy (by simp; exact hbg)).more hb1) (by simp; omega) hb1)
    (fun gc rc ic icc vp w1 k1 b1 hne hb1 => flush_plain base g gc rc 2 n 0 [] ys 0 0 false ic icc vp w1 k1 b1 hne rfl hn (by omega) (by omega) (by omega) hL))
  clear hg hp hn hy
  go_enter Try.func89, Try.ntmps89
  go_wp2_with fail
  refine H.out.mono ?_
  intro e w1 hq
  have hq' := Lib.hid hq
  obtain ⟨ic, rfl, _⟩ := hq
  go_wp2
  go_end0
  exact hq'.out

set_option maxRecDepth 100000 in
set_option maxHeartbeats 1600000 in
theorem iAdd16P_ok (a : Option Addr) (n c : Nat) (ys : List Int) (w : World) (hn : ys.length = n) (hy : BIn w w.heap.size a ys) (hl : n ≤ 4194300) (hL : n / 256 ^ 2 = 0) :
    Calls Try.prog 44 #[.slice a n c] w (GotPost w (bigB 2 n ++ ys)) := by
  have hmf : ∀ (fn : Fn) (first cap : Array Value) (w : World), (Instr.makeFunc fn first cap).run Try.prog w = .ok (.func fn first cap) w := fun _ _ _ _ => rfl
  have Hn := Lib.hid hn
  have Hy := Lib.hid hy
  have HL := Lib.hid hL
  obtain ⟨X, hX⟩ : ∃ X, X = bigB 2 (n : Int) ++ ys := ⟨_, rfl⟩
  have HXl := Lib.hid (show X.length ≤ 4194304000 by rw [hX, List.length_append, bigB_len, hn]; omega)
  rw [← hX]
  have HX := Lib.hid hX
  clear hn hy hL hX
  go_enter Try.func44, Try.ntmps44
  go_wp2_with fail
  obtain ⟨w2, hw2⟩ : ∃ w2, w2 = (w.alloc (.cells #[.slice a n c] 22)).alloc (.cells (bCs (.slice none 0 0) 0 0 false (.pointer none)) 74) := ⟨_, rfl⟩
  have B2 : Bld w2 w.heap.size (w.heap.size + 1) [] 0 0 false (.pointer none) none := by rw [hw2]; exact ⟨_, Blk.new' (by simp) _ _, OwnB.nil _ _ _, rfl⟩
  have P2 : Blk w2 w.heap.size 22 #[.slice a n c] := by rw [hw2]; exact (Blk.new _ _ _).alloc _
  have F2 : Fr [] w w2 := by rw [hw2]; exact ((Fr.refl [] w).alloc _).alloc _
  rw [show (w.alloc (.cells #[.slice a n c] 22)).alloc (.cells #[.nilIface, .slice none 0 0, .bool false, .pointer none, .int .i64 0, .int .i64 0, .bool false, .pointer none] 74) = w2 from hw2.symm]
  clear hw2
  refine (add16P_ok w.heap.size (w.heap.size + 1) w.heap.size a n c ys w2 B2 P2 (by omega) Hn.out (F2.bin Hy.out (by simp)) (by omega) HL.out F2.size (by omega)).mono ?_
  rintro e w3 ⟨ic, rfl, rb, b3, f3, _⟩
  rw [← HX.out] at b3
  have F3 : Fr [w.heap.size + 1] w w3 := (F2.mono (by simp)).trans f3 (by simp)
  clear B2 P2 F2 f3
  go_wp2_with fail
  refine (bytesOf_ok _ _ _ _ _ _ _ _ b3 HXl.out).mono ?_
  rintro e w4 ⟨a4, c4, rfl, q1, q2, q3, q4⟩
  go_wp2
  go_ret2
  exact ⟨a4, c4, rfl, q1, q2, q3, (F3.below (B := w.heap.size) (by simp) (Nat.le_refl _)).trans (q4.mono F3.size)⟩

set_option maxRecDepth 100000 in
set_option maxHeartbeats 800000 in
theorem add24P_clos (base gc rc p : Nat) (xs ys : List Int) (off pl : Int) (pa : Bool) (ic : Value) (a : Option Addr) (n c : Nat) (w : World)
    (hg : Bld w base gc xs off pl pa ic (some rc)) (hp : Blk w p 22 #[.slice a n c]) (hn : ys.length = n) (hy : BIn w w.heap.size a ys) (hl : xs.length + n ≤ 4194303000) (hb : base ≤ w.heap.size) :
    Calls Try.prog 103 #[.pointer (some ⟨gc, 0, none⟩), .pointer (some ⟨p, 0, none⟩)] w (AddPost base gc (xs ++ ys) off pl pa ic (some rc) w) := by
  have p0 := hp.one
  have Hn := Lib.hid hn
  have Hy := Lib.hid hy
  have Hg := Lib.hid hg
  clear hp hn hy hg
  go_enter Try.func103, Try.ntmps103
  go_wp2_with fail
  refine (copied_any a n c ys w Hn.out Hy.out (by omega)).mono ?_
  rintro e w1 ⟨a1, c1, rfl, p1, p2, p3, p4, p5, p6⟩
  have F1 := Fr.of_below p5 []
  have HF := Lib.hid F1
  have G1 := Lib.hid (Hg.out.keep F1)
  clear F1 p4 p6
  go_wp2_with fail
  refine (addBytes_any base gc xs ys off pl pa ic (some rc) a1 n c1 w1 G1.out Hn.out p3 (by omega) (Nat.le_trans hb p5.size)).mono ?_
  intro e w2 hq
  have hq' := Lib.hid (hq.from_ HF.out)
  obtain ⟨rfl, _⟩ := hq
  go_wp2
  go_end0
  exact hq'.out

set_option maxRecDepth 100000 in
set_option maxHeartbeats 1600000 in
theorem add24P_ok (base g p : Nat) (a : Option Addr) (n c : Nat) (ys : List Int) (w : World)
    (hg : Bld w base g [] 0 0 false (.pointer none) none) (hp : Blk w p 22 #[.slice a n c]) (hpg : p ≠ g) (hn : ys.length = n) (hy : BIn w base a ys) (hl : n ≤ 4194300000) (hL : n / 256 ^ 3 = 0) (hb : base ≤ w.heap.size) (hbg : base ≤ g) :
    Calls Try.prog 102 #[.pointer (some ⟨g, 0, none⟩), .func (.func 103) #[] #[.pointer (some ⟨p, 0, none⟩)]] w (ContAdd base g (bigB 3 n ++ ys) 0 0 false none w) := by
  have H := Lib.hid (addLP_ok base g 103 p 3 false false [] ys (bigB 3 n ++ ys) 0 0 none #[.int .u8 0, .int .u8 0, .int .u8 0] w hg (by simp; omega) (by omega) (by omega) hb (fun _ => by kernel_rfl) rfl (fun _ _ => by kernel_rfl)
    (fun gc rc ic w1 f1 b1 hb1 _ _ => add24P_clos base gc rc p ([] ++ List.replicate 3 0) ys _ _ _ _ a n c w1 b1 (f1.blk hp (by simp; exact hpg)) hn ((f1.bin hy (by simp; exact hbg)).more hb1) (by simp; omega) hb1)
    (fun gc rc ic icc vp w1 k1 b1 hne hb1 => flush_plain base g gc rc 3 n 0 [] ys 0 0 false ic icc vp w1 k1 b1 hne rfl hn (by omega) (by omega) (by omega) hL))
  clear hg hp hn hy
  go_enter Try.func102, Try.ntmps102
  go_wp2_with fail
  refine H.out.mono ?_
  intro e w1 hq
  have hq' := Lib.hid hq
  obtain ⟨ic, rfl, _⟩ := hq
  go_wp2
  go_end0
  exact hq'.out

set_option maxRecDepth 100000 in
set_option maxHeartbeats 1600000 in
theorem iAdd24P_ok (a : Option Addr) (n c : Nat) (ys : List Int) (w : World) (hn : ys.length = n) (hy : BIn w w.heap.size a ys) (hl : n ≤ 4194300) (hL : n / 256 ^ 3 = 0) :
    Calls Try.prog 56 #[.slice a n c] w (GotPost w (bigB 3 n ++ ys)) := by
  have hmf : ∀ (fn : Fn) (first cap : Array Value) (w : World), (Instr.makeFunc fn first cap).run Try.prog w = .ok (.func fn first cap) w := fun _ _ _ _ => rfl
  have Hn := Lib.hid hn
  have Hy := Lib.hid hy
  have HL := Lib.hid hL
  obtain ⟨X, hX⟩ : ∃ X, X = bigB 3 (n : Int) ++ ys := ⟨_, rfl⟩
  have HXl := Lib.hid (show X.length ≤ 4194304000 by rw [hX, List.length_append, bigB_len, hn]; omega)
  rw [← hX]
  have HX := Lib.hid hX
  clear hn hy hL hX
  go_enter Try.func56, Try.ntmps56
  go_wp2_with fail
  obtain ⟨w2, hw2⟩ : ∃ w2, w2 = (w.alloc (.cells #[.slice a n c] 22)).alloc (.cells (bCs (.slice none 0 0) 0 0 false (.pointer none)) 74) := ⟨_, rfl⟩
  have B2 : Bld w2 w.heap.size (w.heap.size + 1) [] 0 0 false (.pointer none) none := by rw [hw2]; exact ⟨_, Blk.new' (by simp) _ _, OwnB.nil _ _ _, rfl⟩
  have P2 : Blk w2 w.heap.size 22 #[.slice a n c] := by rw [hw2]; exact (Blk.new _ _ _).alloc _
  have F2 : Fr [] w w2 := by rw [hw2]; exact ((Fr.refl [] w).alloc _).alloc _
  rw [show (w.alloc (.cells #[.slice a n c] 22)).alloc (.cells #[.nilIface, .slice none 0 0, .bool false, .pointer none, .int .i64 0, .int .i64 0, .bool false, .pointer none] 74) = w2 from hw2.symm]
  clear hw2
  refine (add24P_ok w.heap.size (w.heap.size + 1) w.heap.size a n c ys w2 B2 P2 (by omega) Hn.out (F2.bin Hy.out (by simp)) (by omega) HL.out F2.size (by omega)).mono ?_
  rintro e w3 ⟨ic, rfl, rb, b3, f3, _⟩
  rw [← HX.out] at b3
  have F3 : Fr [w.heap.size + 1] w w3 := (F2.mono (by simp)).trans f3 (by simp)
  clear B2 P2 F2 f3
  go_wp2_with fail
  refine (bytesOf_ok _ _ _ _ _ _ _ _ b3 HXl.out).mono ?_
  rintro e w4 ⟨a4, c4, rfl, q1, q2, q3, q4⟩
  go_wp2
  go_ret2
  exact ⟨a4, c4, rfl, q1, q2, q3, (F3.below (B := w.heap.size) (by simp) (Nat.le_refl _)).trans (q4.mono F3.size)⟩

set_option maxRecDepth 100000 in
set_option maxHeartbeats 800000 in
theorem add32P_clos (base gc rc p : Nat) (xs ys : List Int) (off pl : Int) (pa : Bool) (ic : Value) (a : Option Addr) (n c : Nat) (w : World)
    (hg : Bld w base gc xs off pl pa ic (some rc)) (hp : Blk w p 22 #[.slice a n c]) (hn : ys.length = n) (hy : BIn w w.heap.size a ys) (hl : xs.length + n ≤ 4194303000) (hb : base ≤ w.heap.size) :
    Calls Try.prog 92 #[.pointer (some ⟨gc, 0, none⟩), .pointer (some ⟨p, 0, none⟩)] w (AddPost base gc (xs ++ ys) off pl pa ic (some rc) w) := by
  have p0 := hp.one
  have Hn := Lib.hid hn
  have Hy := Lib.hid hy
  have Hg := Lib.hid hg
  clear hp hn hy hg
  go_enter Try.func92, Try.ntmps92
  go_wp2_with fail
  refine (copied_any a n c ys w Hn.out Hy.out (by omega)).mono ?_
  rintro e w1 ⟨a1, c1, rfl, p1, p2, p3, p4, p5, p6⟩
  have F1 := Fr.of_below p5 []
  have HF := Lib.hid F1
  have G1 := Lib.hid (Hg.out.keep F1)
  clear F1 p4 p6
  go_wp2_with fail
  refine (addBytes_any base gc xs ys off pl pa ic (some rc) a1 n c1 w1 G1.out Hn.out p3 (by omega) (Nat.le_trans hb p5.size)).mono ?_
  intro e w2 hq
  have hq' := Lib.hid (hq.from_ HF.out)
  obtain ⟨rfl, _⟩ := hq
  go_wp2
  go_end0
  exact hq'.out

set_option maxRecDepth 100000 in
set_option maxHeartbeats 1600000 in
theorem add32P_ok (base g p : Nat) (a : Option Addr) (n c : Nat) (ys : List Int) (w : World)
    (hg : Bld w base g [] 0 0 false (.pointer none) none) (hp : Blk w p 22 #[.slice a n c]) (hpg : p ≠ g) (hn : ys.length = n) (hy : BIn w base a ys) (hl : n ≤ 4194300000) (hL : n / 256 ^ 4 = 0) (hb : base ≤ w.heap.size) (hbg : base ≤ g) :
    Calls Try.prog 91 #[.pointer (some ⟨g, 0, none⟩), .func (.func 92) #[] #[.pointer (some ⟨p, 0, none⟩)]] w (ContAdd base g (bigB 4 n ++ ys) 0 0 false none w) := by
  have H := Lib.hid (addLP_ok base g 92 p 4 false false [] ys (bigB 4 n ++ ys) 0 0 none #[.int .u8 0, .int .u8 0, .int .u8 0, .int .u8 0] w hg (by simp; omega) (by omega) (by omega) hb (fun _ => by kernel_rfl) rfl (fun _ _ => by kernel_rfl)
    (fun gc rc ic w1 f1 b1 hb1 _ _ => add32P_clos base gc rc p ([] ++ List.replicate 4 0) ys _ _ _ _ a n c w1 b1 (f1.blk hp (by simp; exact hpg)) hn ((f1.bin hy (by simp; exact hbg)).more hb1) (by simp; omega) hb1)
    (fun gc rc ic icc vp w1 k1 b1 hne hb1 => flush_plain base g gc rc 4 n 0 [] ys 0 0 false ic icc vp w1 k1 b1 hne rfl hn (by omega) (by omega) (by omega) hL))
  clear hg hp hn hy
  go_enter Try.func91, Try.ntmps91
  go_wp2_with fail
  refine H.out.mono ?_
  intro e w1 hq
  have hq' := Lib.hid hq
  obtain ⟨ic, rfl, _⟩ := hq
  go_wp2
  go_end0
  exact hq'.out

set_option maxRecDepth 100000 in
set_option maxHeartbeats 1600000 in
theorem iAdd32P_ok (a : Option Addr) (n c : Nat) (ys : List Int) (w : World) (hn : ys.length = n) (hy : BIn w w.heap.size a ys) (hl : n ≤ 4194300) (hL : n / 256 ^ 4 = 0) :
    Calls Try.prog 45 #[.slice a n c] w (GotPost w (bigB 4 n ++ ys)) := by
  have hmf : ∀ (fn : Fn) (first cap : Array Value) (w : World), (Instr.makeFunc fn first cap).run Try.prog w = .ok (.func fn first cap) w := fun _ _ _ _ => rfl
  have Hn := Lib.hid hn
  have Hy := Lib.hid hy
  have HL := Lib.hid hL
  obtain ⟨X, hX⟩ : ∃ X, X = bigB 4 (n : Int) ++ ys := ⟨_, rfl⟩
  have HXl := Lib.hid (show X.length ≤ 4194304000 by rw [hX, List.length_append, bigB_len, hn]; omega)
  rw [← hX]
  have HX := Lib.hid hX
  clear hn hy hL hX
  go_enter Try.func45, Try.ntmps45
  go_wp2_with fail
  obtain ⟨w2, hw2⟩ : ∃ w2, w2 = (w.alloc (.cells #[.slice a n c] 22)).alloc (.cells (bCs (.slice none 0 0) 0 0 false (.pointer none)) 74) := ⟨_, rfl⟩
  have B2 : Bld w2 w.heap.size (w.heap.size + 1) [] 0 0 false (.pointer none) none := by rw [hw2]; exact ⟨_, Blk.new' (by simp) _ _, OwnB.nil _ _ _, rfl⟩
  have P2 : Blk w2 w.heap.size 22 #[.slice a n c] := by rw [hw2]; exact (Blk.new _ _ _).alloc _
  have F2 : Fr [] w w2 := by rw [hw2]; exact ((Fr.refl [] w).alloc _).alloc _
  rw [show (w.alloc (.cells #[.slice a n c] 22)).alloc (.cells #[.nilIface, .slice none 0 0, .bool false, .pointer none, .int .i64 0, .int .i64 0, .bool false, .pointer none] 74) = w2 from hw2.symm]
  clear hw2
  refine (add32P_ok w.heap.size (w.heap.size + 1) w.heap.size a n c ys w2 B2 P2 (by omega) Hn.out (F2.bin Hy.out (by simp)) (by omega) HL.out F2.size (by omega)).mono ?_
  rintro e w3 ⟨ic, rfl, rb, b3, f3, _⟩
  rw [← HX.out] at b3
  have F3 : Fr [w.heap.size + 1] w w3 := (F2.mono (by simp)).trans f3 (by simp)
  clear B2 P2 F2 f3
  go_wp2_with fail
  refine (bytesOf_ok _ _ _ _ _ _ _ _ b3 HXl.out).mono ?_
  rintro e w4 ⟨a4, c4, rfl, q1, q2, q3, q4⟩
  go_wp2
  go_ret2
  exact ⟨a4, c4, rfl, q1, q2, q3, (F3.below (B := w.heap.size) (by simp) (Nat.le_refl _)).trans (q4.mono F3.size)⟩
end Go.Proofs.Ytndknmchhhljcaa
