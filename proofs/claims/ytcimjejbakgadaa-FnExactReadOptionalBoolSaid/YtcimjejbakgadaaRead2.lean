/- Contracts of the thin package's functions that read numbers: impl.ReadUint8 to impl.ReadUint64. (Printed by gen_read2.py of this folder.) -/
import Derived.Test.YtcimjejbakgadaaRead1
namespace Go.Proofs.Ytcimjejbakgadaa
open Go.RowKit

/-- What a reading function of the thin package hands back: a value, what is left, whether it went well; nothing that was there has turned. -/
def NumPost (w : World) (v : Value) (m : Nat) (rest : List Int) (ok : Bool) (e : Ending) (w' : World) : Prop :=
  ∃ a c, e = .returned (.tuple #[v, .slice a m c, .bool ok]) ∧ m ≤ c ∧ c ≤ maxLen ∧ BIn w' w'.heap.size a rest ∧ Below w.heap.size w w'

set_option maxRecDepth 100000 in
set_option maxHeartbeats 800000 in
theorem iReadU8_yes (a : Option Addr) (n c : Nat) (x0 : Int) (xs : List Int) (w : World) (hn : xs.length + 1 = n) (hb : BIn w w.heap.size a (x0 :: xs)) (hl : n ≤ 4194304000) (hx : Byt (x0 :: xs)) :
    Calls Try.prog 45 #[.slice a n c] w (NumPost w (.int .i64 (num [x0])) (n - 1) xs true) := by
  have S := Lib.hid (str_any a n c _ w (by simpa using hn) hb hl)
  have Hn := Lib.hid hn
  have l0 := hx x0 (by simp)
  have N0 : 0 ≤ num [x0] := by simp only [num, List.foldl_cons, List.foldl_nil]; omega
  have N1 : num [x0] ≤ 255 := by simp only [num, List.foldl_cons, List.foldl_nil]; omega
  clear hn hb l0
  generalize hv : num [x0] = v at *
  have Hv := Lib.hid hv
  clear hv
  go_enter Try.func45, Try.ntmps45
  go_wp2_with fail
  refine S.out.mono ?_
  rintro e w1 ⟨a1, c1, rfl, p1, p2, p3, p4, p5, p6⟩
  go_wp2_with fail
  refine (readU8_yes w1.heap.size (w1.heap.size + 1) a1 n c1 x0 xs 0 w1.heap.size _ ((Blk.new _ _ _).alloc _) (Blk.new' (by simp) _ _) (by omega) Hn.out p1 p2 ((((Fr.refl [] w1).alloc _).alloc _).bin p3 (by simp)) (Nat.le_refl _) (by omega) hx).mono ?_
  rintro e w2 ⟨rfl, q1, q2, q3⟩
  rw [Hv.out] at q3
  have c0 := q2.one
  have c2 := q3.one
  go_wp2_with fail
  have C := Lib.hid (copied_any (cutA a1 c1 1) (n - 1) (c1 - 1) xs w2.drew (by have := Hn.out; omega) (q1.bin (((((Fr.refl [] w1).alloc _).alloc _).bin p3 (by simp)).cut (k := 1) (by have := Hn.out; simp; omega)) (by simp)).lt.drew (by omega))
  go_region_held3 (fun w' => w'.cell? ⟨w1.heap.size, 0, none⟩ = some (.slice (cutA a1 c1 1) (n - 1) (c1 - 1)) ∧ w'.cell? ⟨w1.heap.size + 1, 0, none⟩ = some (.int .u8 v)) (first | exact ⟨c0, c2⟩ | exact ⟨(r5.cell (p := ⟨w1.heap.size, 0, none⟩) q2.lt).trans c0, (r5.cell (p := ⟨w1.heap.size + 1, 0, none⟩) q3.lt).trans c2⟩) (first | (go_at_call 75; refine C.out.mono ?_; rintro e w3 ⟨a3, c3, rfl, r1, r2, r3, r4, r5, r6⟩))
  go_wp2
  go_ret3
  rw [wi64 (by omega) (by omega)]
  exact ⟨a3, c3, rfl, r1, r2, r3, ((((((Fr.of_below p5 []).alloc _).alloc _).trans q1 (by have := p5.size; simp; omega)).drew).trans (Fr.of_below r5 []) (by simp)).below (by simp) (Nat.le_refl _)⟩

set_option maxRecDepth 100000 in
set_option maxHeartbeats 800000 in
theorem iReadU8_no (a : Option Addr) (n c : Nat) (xs : List Int) (w : World) (hn : xs.length = n) (h2 : n < 1) (hb : BIn w w.heap.size a xs) (hl : n ≤ 4194304000) :
    Calls Try.prog 45 #[.slice a n c] w (NumPost w (.int .i64 0) n xs false) := by
  have S := Lib.hid (str_any a n c _ w hn hb hl)
  have Hn := Lib.hid hn
  clear hn hb
  go_enter Try.func45, Try.ntmps45
  go_wp2_with fail
  refine S.out.mono ?_
  rintro e w1 ⟨a1, c1, rfl, p1, p2, p3, p4, p5, p6⟩
  go_wp2_with fail
  obtain ⟨w2, hw2⟩ : ∃ w2, w2 = (w1.alloc (.cells #[.slice a1 n c1] 66)).alloc (.cells #[.int .u8 0] 5) := ⟨_, rfl⟩
  rw [← hw2]
  have q2 : Blk w2 w1.heap.size 66 #[.slice a1 n c1] := by rw [hw2]; exact (Blk.new _ _ _).alloc _
  have q3 : Blk w2 (w1.heap.size + 1) 5 #[.int .u8 0] := by rw [hw2]; exact Blk.new' (by simp) _ _
  have q1 : Fr [] w1 w2 := by rw [hw2]; exact ((Fr.refl [] w1).alloc _).alloc _
  clear hw2
  refine (readU8_no w1.heap.size (w1.heap.size + 1) a1 n c1 w2 q2 h2).mono ?_
  rintro e w2' ⟨rfl, rfl⟩
  have c0 := q2.one
  have c2 := q3.one
  go_wp2_with fail
  have C := Lib.hid (copied_any a1 n c1 xs w2.drew Hn.out (q1.bin p3 (by simp)).lt.drew hl)
  go_region_held3 (fun w' => w'.cell? ⟨w1.heap.size, 0, none⟩ = some (.slice a1 n c1) ∧ w'.cell? ⟨w1.heap.size + 1, 0, none⟩ = some (.int .u8 0)) (first | exact ⟨c0, c2⟩ | exact ⟨(r5.cell (p := ⟨w1.heap.size, 0, none⟩) q2.lt).trans c0, (r5.cell (p := ⟨w1.heap.size + 1, 0, none⟩) q3.lt).trans c2⟩) (first | (go_at_call 75; refine C.out.mono ?_; rintro e w3 ⟨a3, c3, rfl, r1, r2, r3, r4, r5, r6⟩))
  go_wp2
  go_ret3
  exact ⟨a3, c3, rfl, r1, r2, r3, ((((Fr.of_below p5 []).trans q1 (by simp)).drew).trans (Fr.of_below r5 []) (by simp)).below (by simp) (Nat.le_refl _)⟩

set_option maxRecDepth 100000 in
set_option maxHeartbeats 800000 in
theorem iReadU16_yes (a : Option Addr) (n c : Nat) (x0 x1 : Int) (xs : List Int) (w : World) (hn : xs.length + 2 = n) (hb : BIn w w.heap.size a (x0 :: x1 :: xs)) (hl : n ≤ 4194304000) (hx : Byt (x0 :: x1 :: xs)) :
    Calls Try.prog 37 #[.slice a n c] w (NumPost w (.int .i64 (num [x0, x1])) (n - 2) xs true) := by
  have S := Lib.hid (str_any a n c _ w (by simpa using hn) hb hl)
  have Hn := Lib.hid hn
  have l0 := hx x0 (by simp)
  have l1 := hx x1 (by simp)
  have N0 : 0 ≤ num [x0, x1] := by simp only [num, List.foldl_cons, List.foldl_nil]; omega
  have N1 : num [x0, x1] ≤ 65535 := by simp only [num, List.foldl_cons, List.foldl_nil]; omega
  clear hn hb l0 l1
  generalize hv : num [x0, x1] = v at *
  have Hv := Lib.hid hv
  clear hv
  go_enter Try.func37, Try.ntmps37
  go_wp2_with fail
  refine S.out.mono ?_
  rintro e w1 ⟨a1, c1, rfl, p1, p2, p3, p4, p5, p6⟩
  go_wp2_with fail
  refine (readU16_yes w1.heap.size (w1.heap.size + 1) a1 n c1 x0 x1 xs 0 w1.heap.size _ ((Blk.new _ _ _).alloc _) (Blk.new' (by simp) _ _) (by omega) Hn.out p1 p2 ((((Fr.refl [] w1).alloc _).alloc _).bin p3 (by simp)) (Nat.le_refl _) (by omega) hx).mono ?_
  rintro e w2 ⟨rfl, q1, q2, q3⟩
  rw [Hv.out] at q3
  have c0 := q2.one
  have c2 := q3.one
  go_wp2_with fail
  have C := Lib.hid (copied_any (cutA a1 c1 2) (n - 2) (c1 - 2) xs w2.drew (by have := Hn.out; omega) (q1.bin (((((Fr.refl [] w1).alloc _).alloc _).bin p3 (by simp)).cut (k := 2) (by have := Hn.out; simp; omega)) (by simp)).lt.drew (by omega))
  go_region_held3 (fun w' => w'.cell? ⟨w1.heap.size, 0, none⟩ = some (.slice (cutA a1 c1 2) (n - 2) (c1 - 2)) ∧ w'.cell? ⟨w1.heap.size + 1, 0, none⟩ = some (.int .u16 v)) (first | exact ⟨c0, c2⟩ | exact ⟨(r5.cell (p := ⟨w1.heap.size, 0, none⟩) q2.lt).trans c0, (r5.cell (p := ⟨w1.heap.size + 1, 0, none⟩) q3.lt).trans c2⟩) (first | (go_at_call 75; refine C.out.mono ?_; rintro e w3 ⟨a3, c3, rfl, r1, r2, r3, r4, r5, r6⟩))
  go_wp2
  go_ret3
  rw [wi64 (by omega) (by omega)]
  exact ⟨a3, c3, rfl, r1, r2, r3, ((((((Fr.of_below p5 []).alloc _).alloc _).trans q1 (by have := p5.size; simp; omega)).drew).trans (Fr.of_below r5 []) (by simp)).below (by simp) (Nat.le_refl _)⟩

set_option maxRecDepth 100000 in
set_option maxHeartbeats 800000 in
theorem iReadU16_no (a : Option Addr) (n c : Nat) (xs : List Int) (w : World) (hn : xs.length = n) (h2 : n < 2) (hb : BIn w w.heap.size a xs) (hl : n ≤ 4194304000) :
    Calls Try.prog 37 #[.slice a n c] w (NumPost w (.int .i64 0) n xs false) := by
  have S := Lib.hid (str_any a n c _ w hn hb hl)
  have Hn := Lib.hid hn
  clear hn hb
  go_enter Try.func37, Try.ntmps37
  go_wp2_with fail
  refine S.out.mono ?_
  rintro e w1 ⟨a1, c1, rfl, p1, p2, p3, p4, p5, p6⟩
  go_wp2_with fail
  obtain ⟨w2, hw2⟩ : ∃ w2, w2 = (w1.alloc (.cells #[.slice a1 n c1] 66)).alloc (.cells #[.int .u16 0] 71) := ⟨_, rfl⟩
  rw [← hw2]
  have q2 : Blk w2 w1.heap.size 66 #[.slice a1 n c1] := by rw [hw2]; exact (Blk.new _ _ _).alloc _
  have q3 : Blk w2 (w1.heap.size + 1) 71 #[.int .u16 0] := by rw [hw2]; exact Blk.new' (by simp) _ _
  have q1 : Fr [] w1 w2 := by rw [hw2]; exact ((Fr.refl [] w1).alloc _).alloc _
  clear hw2
  refine (readU16_no w1.heap.size (w1.heap.size + 1) a1 n c1 w2 q2 h2).mono ?_
  rintro e w2' ⟨rfl, rfl⟩
  have c0 := q2.one
  have c2 := q3.one
  go_wp2_with fail
  have C := Lib.hid (copied_any a1 n c1 xs w2.drew Hn.out (q1.bin p3 (by simp)).lt.drew hl)
  go_region_held3 (fun w' => w'.cell? ⟨w1.heap.size, 0, none⟩ = some (.slice a1 n c1) ∧ w'.cell? ⟨w1.heap.size + 1, 0, none⟩ = some (.int .u16 0)) (first | exact ⟨c0, c2⟩ | exact ⟨(r5.cell (p := ⟨w1.heap.size, 0, none⟩) q2.lt).trans c0, (r5.cell (p := ⟨w1.heap.size + 1, 0, none⟩) q3.lt).trans c2⟩) (first | (go_at_call 75; refine C.out.mono ?_; rintro e w3 ⟨a3, c3, rfl, r1, r2, r3, r4, r5, r6⟩))
  go_wp2
  go_ret3
  exact ⟨a3, c3, rfl, r1, r2, r3, ((((Fr.of_below p5 []).trans q1 (by simp)).drew).trans (Fr.of_below r5 []) (by simp)).below (by simp) (Nat.le_refl _)⟩

set_option maxRecDepth 100000 in
set_option maxHeartbeats 800000 in
theorem iReadU24_yes (a : Option Addr) (n c : Nat) (x0 x1 x2 : Int) (xs : List Int) (w : World) (hn : xs.length + 3 = n) (hb : BIn w w.heap.size a (x0 :: x1 :: x2 :: xs)) (hl : n ≤ 4194304000) (hx : Byt (x0 :: x1 :: x2 :: xs)) :
    Calls Try.prog 46 #[.slice a n c] w (NumPost w (.int .i64 (num [x0, x1, x2])) (n - 3) xs true) := by
  have S := Lib.hid (str_any a n c _ w (by simpa using hn) hb hl)
  have Hn := Lib.hid hn
  have l0 := hx x0 (by simp)
  have l1 := hx x1 (by simp)
  have l2 := hx x2 (by simp)
  have N0 : 0 ≤ num [x0, x1, x2] := by simp only [num, List.foldl_cons, List.foldl_nil]; omega
  have N1 : num [x0, x1, x2] ≤ 16777215 := by simp only [num, List.foldl_cons, List.foldl_nil]; omega
  clear hn hb l0 l1 l2
  generalize hv : num [x0, x1, x2] = v at *
  have Hv := Lib.hid hv
  clear hv
  go_enter Try.func46, Try.ntmps46
  go_wp2_with fail
  refine S.out.mono ?_
  rintro e w1 ⟨a1, c1, rfl, p1, p2, p3, p4, p5, p6⟩
  go_wp2_with fail
  refine (readU24_yes w1.heap.size (w1.heap.size + 1) a1 n c1 x0 x1 x2 xs 0 w1.heap.size _ ((Blk.new _ _ _).alloc _) (Blk.new' (by simp) _ _) (by omega) Hn.out p1 p2 ((((Fr.refl [] w1).alloc _).alloc _).bin p3 (by simp)) (Nat.le_refl _) (by omega) hx).mono ?_
  rintro e w2 ⟨rfl, q1, q2, q3⟩
  rw [Hv.out] at q3
  have c0 := q2.one
  have c2 := q3.one
  go_wp2_with fail
  have C := Lib.hid (copied_any (cutA a1 c1 3) (n - 3) (c1 - 3) xs w2.drew (by have := Hn.out; omega) (q1.bin (((((Fr.refl [] w1).alloc _).alloc _).bin p3 (by simp)).cut (k := 3) (by have := Hn.out; simp; omega)) (by simp)).lt.drew (by omega))
  go_region_held3 (fun w' => w'.cell? ⟨w1.heap.size, 0, none⟩ = some (.slice (cutA a1 c1 3) (n - 3) (c1 - 3)) ∧ w'.cell? ⟨w1.heap.size + 1, 0, none⟩ = some (.int .u32 v)) (first | exact ⟨c0, c2⟩ | exact ⟨(r5.cell (p := ⟨w1.heap.size, 0, none⟩) q2.lt).trans c0, (r5.cell (p := ⟨w1.heap.size + 1, 0, none⟩) q3.lt).trans c2⟩) (first | (go_at_call 75; refine C.out.mono ?_; rintro e w3 ⟨a3, c3, rfl, r1, r2, r3, r4, r5, r6⟩))
  go_wp2
  go_ret3
  rw [wi64 (by omega) (by omega)]
  exact ⟨a3, c3, rfl, r1, r2, r3, ((((((Fr.of_below p5 []).alloc _).alloc _).trans q1 (by have := p5.size; simp; omega)).drew).trans (Fr.of_below r5 []) (by simp)).below (by simp) (Nat.le_refl _)⟩

set_option maxRecDepth 100000 in
set_option maxHeartbeats 800000 in
theorem iReadU24_no (a : Option Addr) (n c : Nat) (xs : List Int) (w : World) (hn : xs.length = n) (h2 : n < 3) (hb : BIn w w.heap.size a xs) (hl : n ≤ 4194304000) :
    Calls Try.prog 46 #[.slice a n c] w (NumPost w (.int .i64 0) n xs false) := by
  have S := Lib.hid (str_any a n c _ w hn hb hl)
  have Hn := Lib.hid hn
  clear hn hb
  go_enter Try.func46, Try.ntmps46
  go_wp2_with fail
  refine S.out.mono ?_
  rintro e w1 ⟨a1, c1, rfl, p1, p2, p3, p4, p5, p6⟩
  go_wp2_with fail
  obtain ⟨w2, hw2⟩ : ∃ w2, w2 = (w1.alloc (.cells #[.slice a1 n c1] 66)).alloc (.cells #[.int .u32 0] 74) := ⟨_, rfl⟩
  rw [← hw2]
  have q2 : Blk w2 w1.heap.size 66 #[.slice a1 n c1] := by rw [hw2]; exact (Blk.new _ _ _).alloc _
  have q3 : Blk w2 (w1.heap.size + 1) 74 #[.int .u32 0] := by rw [hw2]; exact Blk.new' (by simp) _ _
  have q1 : Fr [] w1 w2 := by rw [hw2]; exact ((Fr.refl [] w1).alloc _).alloc _
  clear hw2
  refine (readU24_no w1.heap.size (w1.heap.size + 1) a1 n c1 w2 q2 h2).mono ?_
  rintro e w2' ⟨rfl, rfl⟩
  have c0 := q2.one
  have c2 := q3.one
  go_wp2_with fail
  have C := Lib.hid (copied_any a1 n c1 xs w2.drew Hn.out (q1.bin p3 (by simp)).lt.drew hl)
  go_region_held3 (fun w' => w'.cell? ⟨w1.heap.size, 0, none⟩ = some (.slice a1 n c1) ∧ w'.cell? ⟨w1.heap.size + 1, 0, none⟩ = some (.int .u32 0)) (first | exact ⟨c0, c2⟩ | exact ⟨(r5.cell (p := ⟨w1.heap.size, 0, none⟩) q2.lt).trans c0, (r5.cell (p := ⟨w1.heap.size + 1, 0, none⟩) q3.lt).trans c2⟩) (first | (go_at_call 75; refine C.out.mono ?_; rintro e w3 ⟨a3, c3, rfl, r1, r2, r3, r4, r5, r6⟩))
  go_wp2
  go_ret3
  exact ⟨a3, c3, rfl, r1, r2, r3, ((((Fr.of_below p5 []).trans q1 (by simp)).drew).trans (Fr.of_below r5 []) (by simp)).below (by simp) (Nat.le_refl _)⟩

set_option maxRecDepth 100000 in
set_option maxHeartbeats 800000 in
theorem iReadU32_yes (a : Option Addr) (n c : Nat) (x0 x1 x2 x3 : Int) (xs : List Int) (w : World) (hn : xs.length + 4 = n) (hb : BIn w w.heap.size a (x0 :: x1 :: x2 :: x3 :: xs)) (hl : n ≤ 4194304000) (hx : Byt (x0 :: x1 :: x2 :: x3 :: xs)) :
    Calls Try.prog 39 #[.slice a n c] w (NumPost w (.int .i64 (num [x0, x1, x2, x3])) (n - 4) xs true) := by
  have S := Lib.hid (str_any a n c _ w (by simpa using hn) hb hl)
  have Hn := Lib.hid hn
  have l0 := hx x0 (by simp)
  have l1 := hx x1 (by simp)
  have l2 := hx x2 (by simp)
  have l3 := hx x3 (by simp)
  have N0 : 0 ≤ num [x0, x1, x2, x3] := by simp only [num, List.foldl_cons, List.foldl_nil]; omega
  have N1 : num [x0, x1, x2, x3] ≤ 4294967295 := by simp only [num, List.foldl_cons, List.foldl_nil]; omega
  clear hn hb l0 l1 l2 l3
  generalize hv : num [x0, x1, x2, x3] = v at *
  have Hv := Lib.hid hv
  clear hv
  go_enter Try.func39, Try.ntmps39
  go_wp2_with fail
  refine S.out.mono ?_
  rintro e w1 ⟨a1, c1, rfl, p1, p2, p3, p4, p5, p6⟩
  go_wp2_with fail
  refine (readU32_yes w1.heap.size (w1.heap.size + 1) a1 n c1 x0 x1 x2 x3 xs 0 w1.heap.size _ ((Blk.new _ _ _).alloc _) (Blk.new' (by simp) _ _) (by omega) Hn.out p1 p2 ((((Fr.refl [] w1).alloc _).alloc _).bin p3 (by simp)) (Nat.le_refl _) (by omega) hx).mono ?_
  rintro e w2 ⟨rfl, q1, q2, q3⟩
  rw [Hv.out] at q3
  have c0 := q2.one
  have c2 := q3.one
  go_wp2_with fail
  have C := Lib.hid (copied_any (cutA a1 c1 4) (n - 4) (c1 - 4) xs w2.drew (by have := Hn.out; omega) (q1.bin (((((Fr.refl [] w1).alloc _).alloc _).bin p3 (by simp)).cut (k := 4) (by have := Hn.out; simp; omega)) (by simp)).lt.drew (by omega))
  go_region_held3 (fun w' => w'.cell? ⟨w1.heap.size, 0, none⟩ = some (.slice (cutA a1 c1 4) (n - 4) (c1 - 4)) ∧ w'.cell? ⟨w1.heap.size + 1, 0, none⟩ = some (.int .u32 v)) (first | exact ⟨c0, c2⟩ | exact ⟨(r5.cell (p := ⟨w1.heap.size, 0, none⟩) q2.lt).trans c0, (r5.cell (p := ⟨w1.heap.size + 1, 0, none⟩) q3.lt).trans c2⟩) (first | (go_at_call 75; refine C.out.mono ?_; rintro e w3 ⟨a3, c3, rfl, r1, r2, r3, r4, r5, r6⟩))
  go_wp2
  go_ret3
  rw [wi64 (by omega) (by omega)]
  exact ⟨a3, c3, rfl, r1, r2, r3, ((((((Fr.of_below p5 []).alloc _).alloc _).trans q1 (by have := p5.size; simp; omega)).drew).trans (Fr.of_below r5 []) (by simp)).below (by simp) (Nat.le_refl _)⟩

set_option maxRecDepth 100000 in
set_option maxHeartbeats 800000 in
theorem iReadU32_no (a : Option Addr) (n c : Nat) (xs : List Int) (w : World) (hn : xs.length = n) (h2 : n < 4) (hb : BIn w w.heap.size a xs) (hl : n ≤ 4194304000) :
    Calls Try.prog 39 #[.slice a n c] w (NumPost w (.int .i64 0) n xs false) := by
  have S := Lib.hid (str_any a n c _ w hn hb hl)
  have Hn := Lib.hid hn
  clear hn hb
  go_enter Try.func39, Try.ntmps39
  go_wp2_with fail
  refine S.out.mono ?_
  rintro e w1 ⟨a1, c1, rfl, p1, p2, p3, p4, p5, p6⟩
  go_wp2_with fail
  obtain ⟨w2, hw2⟩ : ∃ w2, w2 = (w1.alloc (.cells #[.slice a1 n c1] 66)).alloc (.cells #[.int .u32 0] 74) := ⟨_, rfl⟩
  rw [← hw2]
  have q2 : Blk w2 w1.heap.size 66 #[.slice a1 n c1] := by rw [hw2]; exact (Blk.new _ _ _).alloc _
  have q3 : Blk w2 (w1.heap.size + 1) 74 #[.int .u32 0] := by rw [hw2]; exact Blk.new' (by simp) _ _
  have q1 : Fr [] w1 w2 := by rw [hw2]; exact ((Fr.refl [] w1).alloc _).alloc _
  clear hw2
  refine (readU32_no w1.heap.size (w1.heap.size + 1) a1 n c1 w2 q2 h2).mono ?_
  rintro e w2' ⟨rfl, rfl⟩
  have c0 := q2.one
  have c2 := q3.one
  go_wp2_with fail
  have C := Lib.hid (copied_any a1 n c1 xs w2.drew Hn.out (q1.bin p3 (by simp)).lt.drew hl)
  go_region_held3 (fun w' => w'.cell? ⟨w1.heap.size, 0, none⟩ = some (.slice a1 n c1) ∧ w'.cell? ⟨w1.heap.size + 1, 0, none⟩ = some (.int .u32 0)) (first | exact ⟨c0, c2⟩ | exact ⟨(r5.cell (p := ⟨w1.heap.size, 0, none⟩) q2.lt).trans c0, (r5.cell (p := ⟨w1.heap.size + 1, 0, none⟩) q3.lt).trans c2⟩) (first | (go_at_call 75; refine C.out.mono ?_; rintro e w3 ⟨a3, c3, rfl, r1, r2, r3, r4, r5, r6⟩))
  go_wp2
  go_ret3
  exact ⟨a3, c3, rfl, r1, r2, r3, ((((Fr.of_below p5 []).trans q1 (by simp)).drew).trans (Fr.of_below r5 []) (by simp)).below (by simp) (Nat.le_refl _)⟩

set_option maxRecDepth 100000 in
set_option maxHeartbeats 800000 in
theorem iReadU48_yes (a : Option Addr) (n c : Nat) (x0 x1 x2 x3 x4 x5 : Int) (xs : List Int) (w : World) (hn : xs.length + 6 = n) (hb : BIn w w.heap.size a (x0 :: x1 :: x2 :: x3 :: x4 :: x5 :: xs)) (hl : n ≤ 4194304000) (hx : Byt (x0 :: x1 :: x2 :: x3 :: x4 :: x5 :: xs)) :
    Calls Try.prog 47 #[.slice a n c] w (NumPost w (.int .i64 (num [x0, x1, x2, x3, x4, x5])) (n - 6) xs true) := by
  have S := Lib.hid (str_any a n c _ w (by simpa using hn) hb hl)
  have Hn := Lib.hid hn
  have l0 := hx x0 (by simp)
  have l1 := hx x1 (by simp)
  have l2 := hx x2 (by simp)
  have l3 := hx x3 (by simp)
  have l4 := hx x4 (by simp)
  have l5 := hx x5 (by simp)
  have N0 : 0 ≤ num [x0, x1, x2, x3, x4, x5] := by simp only [num, List.foldl_cons, List.foldl_nil]; omega
  have N1 : num [x0, x1, x2, x3, x4, x5] ≤ 281474976710655 := by simp only [num, List.foldl_cons, List.foldl_nil]; omega
  clear hn hb l0 l1 l2 l3 l4 l5
  generalize hv : num [x0, x1, x2, x3, x4, x5] = v at *
  have Hv := Lib.hid hv
  clear hv
  go_enter Try.func47, Try.ntmps47
  go_wp2_with fail
  refine S.out.mono ?_
  rintro e w1 ⟨a1, c1, rfl, p1, p2, p3, p4, p5, p6⟩
  go_wp2_with fail
  refine (readU48_yes w1.heap.size (w1.heap.size + 1) a1 n c1 x0 x1 x2 x3 x4 x5 xs 0 w1.heap.size _ ((Blk.new _ _ _).alloc _) (Blk.new' (by simp) _ _) (by omega) Hn.out p1 p2 ((((Fr.refl [] w1).alloc _).alloc _).bin p3 (by simp)) (Nat.le_refl _) (by omega) hx).mono ?_
  rintro e w2 ⟨rfl, q1, q2, q3⟩
  rw [Hv.out] at q3
  have c0 := q2.one
  have c2 := q3.one
  go_wp2_with fail
  have C := Lib.hid (copied_any (cutA a1 c1 6) (n - 6) (c1 - 6) xs w2.drew (by have := Hn.out; omega) (q1.bin (((((Fr.refl [] w1).alloc _).alloc _).bin p3 (by simp)).cut (k := 6) (by have := Hn.out; simp; omega)) (by simp)).lt.drew (by omega))
  go_region_held3 (fun w' => w'.cell? ⟨w1.heap.size, 0, none⟩ = some (.slice (cutA a1 c1 6) (n - 6) (c1 - 6)) ∧ w'.cell? ⟨w1.heap.size + 1, 0, none⟩ = some (.int .u64 v)) (first | exact ⟨c0, c2⟩ | exact ⟨(r5.cell (p := ⟨w1.heap.size, 0, none⟩) q2.lt).trans c0, (r5.cell (p := ⟨w1.heap.size + 1, 0, none⟩) q3.lt).trans c2⟩) (first | (go_at_call 75; refine C.out.mono ?_; rintro e w3 ⟨a3, c3, rfl, r1, r2, r3, r4, r5, r6⟩))
  go_wp2
  go_ret3
  rw [wi64 (by omega) (by omega)]
  exact ⟨a3, c3, rfl, r1, r2, r3, ((((((Fr.of_below p5 []).alloc _).alloc _).trans q1 (by have := p5.size; simp; omega)).drew).trans (Fr.of_below r5 []) (by simp)).below (by simp) (Nat.le_refl _)⟩

set_option maxRecDepth 100000 in
set_option maxHeartbeats 800000 in
theorem iReadU48_no (a : Option Addr) (n c : Nat) (xs : List Int) (w : World) (hn : xs.length = n) (h2 : n < 6) (hb : BIn w w.heap.size a xs) (hl : n ≤ 4194304000) :
    Calls Try.prog 47 #[.slice a n c] w (NumPost w (.int .i64 0) n xs false) := by
  have S := Lib.hid (str_any a n c _ w hn hb hl)
  have Hn := Lib.hid hn
  clear hn hb
  go_enter Try.func47, Try.ntmps47
  go_wp2_with fail
  refine S.out.mono ?_
  rintro e w1 ⟨a1, c1, rfl, p1, p2, p3, p4, p5, p6⟩
  go_wp2_with fail
  obtain ⟨w2, hw2⟩ : ∃ w2, w2 = (w1.alloc (.cells #[.slice a1 n c1] 66)).alloc (.cells #[.int .u64 0] 32) := ⟨_, rfl⟩
  rw [← hw2]
  have q2 : Blk w2 w1.heap.size 66 #[.slice a1 n c1] := by rw [hw2]; exact (Blk.new _ _ _).alloc _
  have q3 : Blk w2 (w1.heap.size + 1) 32 #[.int .u64 0] := by rw [hw2]; exact Blk.new' (by simp) _ _
  have q1 : Fr [] w1 w2 := by rw [hw2]; exact ((Fr.refl [] w1).alloc _).alloc _
  clear hw2
  refine (readU48_no w1.heap.size (w1.heap.size + 1) a1 n c1 w2 q2 h2).mono ?_
  rintro e w2' ⟨rfl, rfl⟩
  have c0 := q2.one
  have c2 := q3.one
  go_wp2_with fail
  have C := Lib.hid (copied_any a1 n c1 xs w2.drew Hn.out (q1.bin p3 (by simp)).lt.drew hl)
  go_region_held3 (fun w' => w'.cell? ⟨w1.heap.size, 0, none⟩ = some (.slice a1 n c1) ∧ w'.cell? ⟨w1.heap.size + 1, 0, none⟩ = some (.int .u64 0)) (first | exact ⟨c0, c2⟩ | exact ⟨(r5.cell (p := ⟨w1.heap.size, 0, none⟩) q2.lt).trans c0, (r5.cell (p := ⟨w1.heap.size + 1, 0, none⟩) q3.lt).trans c2⟩) (first | (go_at_call 75; refine C.out.mono ?_; rintro e w3 ⟨a3, c3, rfl, r1, r2, r3, r4, r5, r6⟩))
  go_wp2
  go_ret3
  exact ⟨a3, c3, rfl, r1, r2, r3, ((((Fr.of_below p5 []).trans q1 (by simp)).drew).trans (Fr.of_below r5 []) (by simp)).below (by simp) (Nat.le_refl _)⟩

set_option maxRecDepth 100000 in
set_option maxHeartbeats 800000 in
theorem iReadU64_yes (a : Option Addr) (n c : Nat) (x0 x1 x2 x3 x4 x5 x6 x7 : Int) (xs : List Int) (w : World) (hn : xs.length + 8 = n) (hb : BIn w w.heap.size a (x0 :: x1 :: x2 :: x3 :: x4 :: x5 :: x6 :: x7 :: xs)) (hl : n ≤ 4194304000) (hx : Byt (x0 :: x1 :: x2 :: x3 :: x4 :: x5 :: x6 :: x7 :: xs)) :
    Calls Try.prog 40 #[.slice a n c] w (NumPost w (.int .u64 (num [x0, x1, x2, x3, x4, x5, x6, x7])) (n - 8) xs true) := by
  have S := Lib.hid (str_any a n c _ w (by simpa using hn) hb hl)
  have Hn := Lib.hid hn
  have l0 := hx x0 (by simp)
  have l1 := hx x1 (by simp)
  have l2 := hx x2 (by simp)
  have l3 := hx x3 (by simp)
  have l4 := hx x4 (by simp)
  have l5 := hx x5 (by simp)
  have l6 := hx x6 (by simp)
  have l7 := hx x7 (by simp)
  have N0 : 0 ≤ num [x0, x1, x2, x3, x4, x5, x6, x7] := by simp only [num, List.foldl_cons, List.foldl_nil]; omega
  have N1 : num [x0, x1, x2, x3, x4, x5, x6, x7] ≤ 18446744073709551615 := by simp only [num, List.foldl_cons, List.foldl_nil]; omega
  clear hn hb l0 l1 l2 l3 l4 l5 l6 l7
  clear N0 N1
  generalize hv : num [x0, x1, x2, x3, x4, x5, x6, x7] = v at *
  have Hv := Lib.hid hv
  clear hv
  go_enter Try.func40, Try.ntmps40
  go_wp2_with fail
  refine S.out.mono ?_
  rintro e w1 ⟨a1, c1, rfl, p1, p2, p3, p4, p5, p6⟩
  go_wp2_with fail
  refine (readU64_yes w1.heap.size (w1.heap.size + 1) a1 n c1 x0 x1 x2 x3 x4 x5 x6 x7 xs 0 w1.heap.size _ ((Blk.new _ _ _).alloc _) (Blk.new' (by simp) _ _) (by omega) Hn.out p1 p2 ((((Fr.refl [] w1).alloc _).alloc _).bin p3 (by simp)) (Nat.le_refl _) (by omega) hx).mono ?_
  rintro e w2 ⟨rfl, q1, q2, q3⟩
  rw [Hv.out] at q3
  have c0 := q2.one
  have c2 := q3.one
  go_wp2_with fail
  have C := Lib.hid (copied_any (cutA a1 c1 8) (n - 8) (c1 - 8) xs w2.drew (by have := Hn.out; omega) (q1.bin (((((Fr.refl [] w1).alloc _).alloc _).bin p3 (by simp)).cut (k := 8) (by have := Hn.out; simp; omega)) (by simp)).lt.drew (by omega))
  go_region_held3 (fun w' => w'.cell? ⟨w1.heap.size, 0, none⟩ = some (.slice (cutA a1 c1 8) (n - 8) (c1 - 8)) ∧ w'.cell? ⟨w1.heap.size + 1, 0, none⟩ = some (.int .u64 v)) (first | exact ⟨c0, c2⟩ | exact ⟨(r5.cell (p := ⟨w1.heap.size, 0, none⟩) q2.lt).trans c0, (r5.cell (p := ⟨w1.heap.size + 1, 0, none⟩) q3.lt).trans c2⟩) (first | (go_at_call 75; refine C.out.mono ?_; rintro e w3 ⟨a3, c3, rfl, r1, r2, r3, r4, r5, r6⟩))
  go_wp2
  go_ret3
  exact ⟨a3, c3, rfl, r1, r2, r3, ((((((Fr.of_below p5 []).alloc _).alloc _).trans q1 (by have := p5.size; simp; omega)).drew).trans (Fr.of_below r5 []) (by simp)).below (by simp) (Nat.le_refl _)⟩

set_option maxRecDepth 100000 in
set_option maxHeartbeats 800000 in
theorem iReadU64_no (a : Option Addr) (n c : Nat) (xs : List Int) (w : World) (hn : xs.length = n) (h2 : n < 8) (hb : BIn w w.heap.size a xs) (hl : n ≤ 4194304000) :
    Calls Try.prog 40 #[.slice a n c] w (NumPost w (.int .u64 0) n xs false) := by
  have S := Lib.hid (str_any a n c _ w hn hb hl)
  have Hn := Lib.hid hn
  clear hn hb
  go_enter Try.func40, Try.ntmps40
  go_wp2_with fail
  refine S.out.mono ?_
  rintro e w1 ⟨a1, c1, rfl, p1, p2, p3, p4, p5, p6⟩
  go_wp2_with fail
  obtain ⟨w2, hw2⟩ : ∃ w2, w2 = (w1.alloc (.cells #[.slice a1 n c1] 66)).alloc (.cells #[.int .u64 0] 32) := ⟨_, rfl⟩
  rw [← hw2]
  have q2 : Blk w2 w1.heap.size 66 #[.slice a1 n c1] := by rw [hw2]; exact (Blk.new _ _ _).alloc _
  have q3 : Blk w2 (w1.heap.size + 1) 32 #[.int .u64 0] := by rw [hw2]; exact Blk.new' (by simp) _ _
  have q1 : Fr [] w1 w2 := by rw [hw2]; exact ((Fr.refl [] w1).alloc _).alloc _
  clear hw2
  refine (readU64_no w1.heap.size (w1.heap.size + 1) a1 n c1 w2 q2 h2).mono ?_
  rintro e w2' ⟨rfl, rfl⟩
  have c0 := q2.one
  have c2 := q3.one
  go_wp2_with fail
  have C := Lib.hid (copied_any a1 n c1 xs w2.drew Hn.out (q1.bin p3 (by simp)).lt.drew hl)
  go_region_held3 (fun w' => w'.cell? ⟨w1.heap.size, 0, none⟩ = some (.slice a1 n c1) ∧ w'.cell? ⟨w1.heap.size + 1, 0, none⟩ = some (.int .u64 0)) (first | exact ⟨c0, c2⟩ | exact ⟨(r5.cell (p := ⟨w1.heap.size, 0, none⟩) q2.lt).trans c0, (r5.cell (p := ⟨w1.heap.size + 1, 0, none⟩) q3.lt).trans c2⟩) (first | (go_at_call 75; refine C.out.mono ?_; rintro e w3 ⟨a3, c3, rfl, r1, r2, r3, r4, r5, r6⟩))
  go_wp2
  go_ret3
  exact ⟨a3, c3, rfl, r1, r2, r3, ((((Fr.of_below p5 []).trans q1 (by simp)).drew).trans (Fr.of_below r5 []) (by simp)).below (by simp) (Nat.le_refl _)⟩
end Go.Proofs.Ytcimjejbakgadaa
