/- Contracts of the methods of String that read numbers: ReadUint8 to ReadUint64. (Printed by gen_read1.py of this folder.) -/
import Derived.Test.YtcimjejbakgadaaRead0
import Derived.Test.YtcimjejbakgadaaNum
import Derived.StillTailTactics
import Derived.Deep.QuietTactic
import Derived.BigQuiet
import Derived.Deep.DrawnRows
import Derived.Outline
namespace Go.Proofs.Ytcimjejbakgadaa
open Go.RowKit

/-- What a method that reads a number leaves: the string's box and the number's box. -/
def RdPost (g go : Nat) (t : TypeId) (v u : Value) (w : World) (e : Ending) (w' : World) : Prop :=
  e = .returned (.bool true) ∧ Fr [g, go] w w' ∧ Blk w' g 66 #[v] ∧ Blk w' go t #[u]

theorem rdPost_mk {g go : Nat} {t : TypeId} {v0 u0 v u : Value} {w : World} (k : Nat) (hg : Blk w g 66 #[v0]) (ho : Blk w go t #[u0]) (hne : g ≠ go) :
    Fr [g, go] w (((w.setCell ⟨g, 0, none⟩ v).drewN k).setCell ⟨go, 0, none⟩ u) ∧ Blk (((w.setCell ⟨g, 0, none⟩ v).drewN k).setCell ⟨go, 0, none⟩ u) g 66 #[v] ∧ Blk (((w.setCell ⟨g, 0, none⟩ v).drewN k).setCell ⟨go, 0, none⟩ u) go t #[u] :=
  ⟨(((Fr.refl _ _).set_ (.inl (by simp)) _).drewN _).set_ (.inl (by simp)) _, ((hg.set_ 0 v).drewN k).far (p := ⟨go, 0, none⟩) hne u, ((ho.far (p := ⟨g, 0, none⟩) (fun e => hne e.symm) v).drewN k).set_ 0 u⟩
theorem rdPost_mk0 {g go : Nat} {t : TypeId} {v0 u0 v u : Value} {w : World} (hg : Blk w g 66 #[v0]) (ho : Blk w go t #[u0]) (hne : g ≠ go) :
    Fr [g, go] w ((w.setCell ⟨g, 0, none⟩ v).setCell ⟨go, 0, none⟩ u) ∧ Blk ((w.setCell ⟨g, 0, none⟩ v).setCell ⟨go, 0, none⟩ u) g 66 #[v] ∧ Blk ((w.setCell ⟨g, 0, none⟩ v).setCell ⟨go, 0, none⟩ u) go t #[u] :=
  ⟨((Fr.refl _ _).set_ (.inl (by simp)) _).set_ (.inl (by simp)) _, (hg.set_ 0 v).far (p := ⟨go, 0, none⟩) hne u, (ho.far (p := ⟨g, 0, none⟩) (fun e => hne e.symm) v).set_ 0 u⟩

set_option maxRecDepth 100000 in
set_option maxHeartbeats 400000 in
theorem readU8_yes (g go : Nat) (a : Option Addr) (n c : Nat) (x0 : Int) (xs : List Int) (z : Int) (B : Nat) (w : World) (hg : Blk w g 66 #[.slice a n c]) (ho : Blk w go 5 #[.int .u8 z]) (hne : g ≠ go)
    (hn : xs.length + 1 = n) (hc : n ≤ c) (hm : c ≤ maxLen) (hb : BIn w B a (x0 :: xs)) (hB : B ≤ g) (hBo : B ≤ go) (hx : Byt (x0 :: xs)) :
    Calls Try.prog 83 #[.pointer (some ⟨g, 0, none⟩), .pointer (some ⟨go, 0, none⟩)] w (RdPost g go 5 (.slice (cutA a c 1) (n - 1) (c - 1)) (.int .u8 (num [x0])) w) := by
  obtain ⟨b, o, rfl, hbB, hcell⟩ := hb (by simp)
  have e0 : w.cell? ⟨b, o, none⟩ = some (.int .u8 x0) := hcell 0 (by simp)
  obtain ⟨l0, h0⟩ := hx x0 (by simp)
  have R := Lib.hid (read_yes g (some ⟨b, o, none⟩) n c 1 w hg (by omega) hc hm)
  have F := fun v u => Lib.hid (rdPost_mk0 (t := 5) (v := v) (u := u) hg ho hne)
  have q := nil_eql 24 5 Try.underlying24
  have o0 := ho.one
  have of := ho.frozen 0
  have hbg : ¬ b = g := by omega
  have hbo : ¬ b = go := by omega
  clear hcell hn hb hg ho hx
  go_enter Try.func83, Try.ntmps83
  go_wp2_with (go_at_call 101; refine R.out.mono ?_; rintro e w' ⟨rfl, rfl⟩)
  go_ret
  rw [num_one]
  exact ⟨rfl, (F _ _).out⟩

theorem readU8_no (g go : Nat) (a : Option Addr) (n c : Nat) (w : World) (hg : Blk w g 66 #[.slice a n c]) (hn : n < 1) :
    Calls Try.prog 83 #[.pointer (some ⟨g, 0, none⟩), .pointer (some ⟨go, 0, none⟩)] w fun e w' => e = .returned (.bool false) ∧ w = w' := by
  have R := Lib.hid (read_no g a n c 1 w hg (.inr (by omega)))
  have q := nil_eql 24 5 Try.underlying24
  clear hg hn
  go_enter Try.func83, Try.ntmps83
  go_wp2_with (go_at_call 101; refine R.out.mono ?_; rintro e w' ⟨rfl, rfl⟩)
  go_ret
  exact ⟨rfl, rfl⟩

set_option maxRecDepth 100000 in
set_option maxHeartbeats 400000 in
theorem readU16_yes (g go : Nat) (a : Option Addr) (n c : Nat) (x0 x1 : Int) (xs : List Int) (z : Int) (B : Nat) (w : World) (hg : Blk w g 66 #[.slice a n c]) (ho : Blk w go 71 #[.int .u16 z]) (hne : g ≠ go)
    (hn : xs.length + 2 = n) (hc : n ≤ c) (hm : c ≤ maxLen) (hb : BIn w B a (x0 :: x1 :: xs)) (hB : B ≤ g) (hBo : B ≤ go) (hx : Byt (x0 :: x1 :: xs)) :
    Calls Try.prog 77 #[.pointer (some ⟨g, 0, none⟩), .pointer (some ⟨go, 0, none⟩)] w (RdPost g go 71 (.slice (cutA a c 2) (n - 2) (c - 2)) (.int .u16 (num [x0, x1])) w) := by
  obtain ⟨b, o, rfl, hbB, hcell⟩ := hb (by simp)
  have e0 : w.cell? ⟨b, o, none⟩ = some (.int .u8 x0) := hcell 0 (by simp)
  obtain ⟨l0, h0⟩ := hx x0 (by simp)
  have e1 : w.cell? ⟨b, o + 1, none⟩ = some (.int .u8 x1) := hcell 1 (by simp)
  obtain ⟨l1, h1⟩ := hx x1 (by simp)
  have R := Lib.hid (read_yes g (some ⟨b, o, none⟩) n c 2 w hg (by omega) hc hm)
  have V := Lib.hid (show bits .or .u16 (IntKind.u16.wrap (IntKind.u16.wrap x0 * 256)) (IntKind.u16.wrap x1) = num [x0, x1] by
    rw [w16 l0 (by omega), w16 l1 (by omega), w16 (a := x0 * 256) (by omega) (by omega), or_u16 (a := x0 * 256) (b := x1) 8 (by omega) (by omega) (by omega) (by omega) (by omega) (by omega)]
    simp only [num, List.foldl_cons, List.foldl_nil]; omega)
  have F := fun v u => Lib.hid (rdPost_mk (t := 71) (v := v) (u := u) 1 hg ho hne)
  have q := nil_eql 24 5 Try.underlying24
  have o0 := ho.one
  have of := ho.frozen 0
  have hbg : ¬ b = g := by omega
  have hbo : ¬ b = go := by omega
  clear hcell hn hb hg ho hx
  go_enter Try.func77, Try.ntmps77
  go_wp2_with (go_at_call 101; refine R.out.mono ?_; rintro e w' ⟨rfl, rfl⟩)
  refine region_tail 12 (by kernel_rfl) (by kernel_rfl) ?_
  simp only [List.take_succ_cons, List.take_zero, List.drop_succ_cons, List.drop_zero]
  repeat still_step
  refine wpStill_nil ?_
  rw [V.out]
  go_wp2
  go_ret
  exact ⟨rfl, (F _ _).out⟩

theorem readU16_no (g go : Nat) (a : Option Addr) (n c : Nat) (w : World) (hg : Blk w g 66 #[.slice a n c]) (hn : n < 2) :
    Calls Try.prog 77 #[.pointer (some ⟨g, 0, none⟩), .pointer (some ⟨go, 0, none⟩)] w fun e w' => e = .returned (.bool false) ∧ w = w' := by
  have R := Lib.hid (read_no g a n c 2 w hg (.inr (by omega)))
  have q := nil_eql 24 5 Try.underlying24
  clear hg hn
  go_enter Try.func77, Try.ntmps77
  go_wp2_with (go_at_call 101; refine R.out.mono ?_; rintro e w' ⟨rfl, rfl⟩)
  go_ret
  exact ⟨rfl, rfl⟩

set_option maxRecDepth 100000 in
set_option maxHeartbeats 400000 in
theorem readU24_yes (g go : Nat) (a : Option Addr) (n c : Nat) (x0 x1 x2 : Int) (xs : List Int) (z : Int) (B : Nat) (w : World) (hg : Blk w g 66 #[.slice a n c]) (ho : Blk w go 74 #[.int .u32 z]) (hne : g ≠ go)
    (hn : xs.length + 3 = n) (hc : n ≤ c) (hm : c ≤ maxLen) (hb : BIn w B a (x0 :: x1 :: x2 :: xs)) (hB : B ≤ g) (hBo : B ≤ go) (hx : Byt (x0 :: x1 :: x2 :: xs)) :
    Calls Try.prog 84 #[.pointer (some ⟨g, 0, none⟩), .pointer (some ⟨go, 0, none⟩)] w (RdPost g go 74 (.slice (cutA a c 3) (n - 3) (c - 3)) (.int .u32 (num [x0, x1, x2])) w) := by
  obtain ⟨b, o, rfl, hbB, hcell⟩ := hb (by simp)
  have e0 : w.cell? ⟨b, o, none⟩ = some (.int .u8 x0) := hcell 0 (by simp)
  obtain ⟨l0, h0⟩ := hx x0 (by simp)
  have e1 : w.cell? ⟨b, o + 1, none⟩ = some (.int .u8 x1) := hcell 1 (by simp)
  obtain ⟨l1, h1⟩ := hx x1 (by simp)
  have e2 : w.cell? ⟨b, o + 2, none⟩ = some (.int .u8 x2) := hcell 2 (by simp)
  obtain ⟨l2, h2⟩ := hx x2 (by simp)
  have R := Lib.hid (read_yes g (some ⟨b, o, none⟩) n c 3 w hg (by omega) hc hm)
  have V := Lib.hid (show bits .or .u32 (bits .or .u32 (IntKind.u32.wrap (IntKind.u32.wrap x0 * 65536)) (IntKind.u32.wrap (IntKind.u32.wrap x1 * 256))) (IntKind.u32.wrap x2) = num [x0, x1, x2] by
    rw [w32 l0 (by omega), w32 l1 (by omega), w32 l2 (by omega), w32 (a := x0 * 65536) (by omega) (by omega), w32 (a := x1 * 256) (by omega) (by omega), or_u32 (a := x0 * 65536) (b := x1 * 256) 16 (by omega) (by omega) (by omega) (by omega) (by omega) (by omega), or_u32 (a := x0 * 65536 + x1 * 256) (b := x2) 8 (by omega) (by omega) (by omega) (by omega) (by omega) (by omega)]
    simp only [num, List.foldl_cons, List.foldl_nil]; omega)
  have F := fun v u => Lib.hid (rdPost_mk (t := 74) (v := v) (u := u) 1 hg ho hne)
  have q := nil_eql 24 5 Try.underlying24
  have o0 := ho.one
  have of := ho.frozen 0
  have hbg : ¬ b = g := by omega
  have hbo : ¬ b = go := by omega
  clear hcell hn hb hg ho hx
  go_enter Try.func84, Try.ntmps84
  go_wp2_with (go_at_call 101; refine R.out.mono ?_; rintro e w' ⟨rfl, rfl⟩)
  refine region_tail 18 (by kernel_rfl) (by kernel_rfl) ?_
  simp only [List.take_succ_cons, List.take_zero, List.drop_succ_cons, List.drop_zero]
  repeat still_step
  refine wpStill_nil ?_
  rw [V.out]
  go_wp2
  go_ret
  exact ⟨rfl, (F _ _).out⟩

theorem readU24_no (g go : Nat) (a : Option Addr) (n c : Nat) (w : World) (hg : Blk w g 66 #[.slice a n c]) (hn : n < 3) :
    Calls Try.prog 84 #[.pointer (some ⟨g, 0, none⟩), .pointer (some ⟨go, 0, none⟩)] w fun e w' => e = .returned (.bool false) ∧ w = w' := by
  have R := Lib.hid (read_no g a n c 3 w hg (.inr (by omega)))
  have q := nil_eql 24 5 Try.underlying24
  clear hg hn
  go_enter Try.func84, Try.ntmps84
  go_wp2_with (go_at_call 101; refine R.out.mono ?_; rintro e w' ⟨rfl, rfl⟩)
  go_ret
  exact ⟨rfl, rfl⟩

set_option maxRecDepth 100000 in
set_option maxHeartbeats 400000 in
theorem readU32_yes (g go : Nat) (a : Option Addr) (n c : Nat) (x0 x1 x2 x3 : Int) (xs : List Int) (z : Int) (B : Nat) (w : World) (hg : Blk w g 66 #[.slice a n c]) (ho : Blk w go 74 #[.int .u32 z]) (hne : g ≠ go)
    (hn : xs.length + 4 = n) (hc : n ≤ c) (hm : c ≤ maxLen) (hb : BIn w B a (x0 :: x1 :: x2 :: x3 :: xs)) (hB : B ≤ g) (hBo : B ≤ go) (hx : Byt (x0 :: x1 :: x2 :: x3 :: xs)) :
    Calls Try.prog 78 #[.pointer (some ⟨g, 0, none⟩), .pointer (some ⟨go, 0, none⟩)] w (RdPost g go 74 (.slice (cutA a c 4) (n - 4) (c - 4)) (.int .u32 (num [x0, x1, x2, x3])) w) := by
  obtain ⟨b, o, rfl, hbB, hcell⟩ := hb (by simp)
  have e0 : w.cell? ⟨b, o, none⟩ = some (.int .u8 x0) := hcell 0 (by simp)
  obtain ⟨l0, h0⟩ := hx x0 (by simp)
  have e1 : w.cell? ⟨b, o + 1, none⟩ = some (.int .u8 x1) := hcell 1 (by simp)
  obtain ⟨l1, h1⟩ := hx x1 (by simp)
  have e2 : w.cell? ⟨b, o + 2, none⟩ = some (.int .u8 x2) := hcell 2 (by simp)
  obtain ⟨l2, h2⟩ := hx x2 (by simp)
  have e3 : w.cell? ⟨b, o + 3, none⟩ = some (.int .u8 x3) := hcell 3 (by simp)
  obtain ⟨l3, h3⟩ := hx x3 (by simp)
  have R := Lib.hid (read_yes g (some ⟨b, o, none⟩) n c 4 w hg (by omega) hc hm)
  have V := Lib.hid (show bits .or .u32 (bits .or .u32 (bits .or .u32 (IntKind.u32.wrap (IntKind.u32.wrap x0 * 16777216)) (IntKind.u32.wrap (IntKind.u32.wrap x1 * 65536))) (IntKind.u32.wrap (IntKind.u32.wrap x2 * 256))) (IntKind.u32.wrap x3) = num [x0, x1, x2, x3] by
    rw [w32 l0 (by omega), w32 l1 (by omega), w32 l2 (by omega), w32 l3 (by omega), w32 (a := x0 * 16777216) (by omega) (by omega), w32 (a := x1 * 65536) (by omega) (by omega), w32 (a := x2 * 256) (by omega) (by omega), or_u32 (a := x0 * 16777216) (b := x1 * 65536) 24 (by omega) (by omega) (by omega) (by omega) (by omega) (by omega), or_u32 (a := x0 * 16777216 + x1 * 65536) (b := x2 * 256) 16 (by omega) (by omega) (by omega) (by omega) (by omega) (by omega), or_u32 (a := x0 * 16777216 + x1 * 65536 + x2 * 256) (b := x3) 8 (by omega) (by omega) (by omega) (by omega) (by omega) (by omega)]
    simp only [num, List.foldl_cons, List.foldl_nil]; omega)
  have F := fun v u => Lib.hid (rdPost_mk (t := 74) (v := v) (u := u) 1 hg ho hne)
  have q := nil_eql 24 5 Try.underlying24
  have o0 := ho.one
  have of := ho.frozen 0
  have hbg : ¬ b = g := by omega
  have hbo : ¬ b = go := by omega
  clear hcell hn hb hg ho hx
  go_enter Try.func78, Try.ntmps78
  go_wp2_with (go_at_call 101; refine R.out.mono ?_; rintro e w' ⟨rfl, rfl⟩)
  refine region_tail 24 (by kernel_rfl) (by kernel_rfl) ?_
  simp only [List.take_succ_cons, List.take_zero, List.drop_succ_cons, List.drop_zero]
  repeat still_step
  refine wpStill_nil ?_
  rw [V.out]
  go_wp2
  go_ret
  exact ⟨rfl, (F _ _).out⟩

theorem readU32_no (g go : Nat) (a : Option Addr) (n c : Nat) (w : World) (hg : Blk w g 66 #[.slice a n c]) (hn : n < 4) :
    Calls Try.prog 78 #[.pointer (some ⟨g, 0, none⟩), .pointer (some ⟨go, 0, none⟩)] w fun e w' => e = .returned (.bool false) ∧ w = w' := by
  have R := Lib.hid (read_no g a n c 4 w hg (.inr (by omega)))
  have q := nil_eql 24 5 Try.underlying24
  clear hg hn
  go_enter Try.func78, Try.ntmps78
  go_wp2_with (go_at_call 101; refine R.out.mono ?_; rintro e w' ⟨rfl, rfl⟩)
  go_ret
  exact ⟨rfl, rfl⟩

set_option maxRecDepth 100000 in
set_option maxHeartbeats 2000000 in
theorem readU48_yes (g go : Nat) (a : Option Addr) (n c : Nat) (x0 x1 x2 x3 x4 x5 : Int) (xs : List Int) (z : Int) (B : Nat) (w : World) (hg : Blk w g 66 #[.slice a n c]) (ho : Blk w go 32 #[.int .u64 z]) (hne : g ≠ go)
    (hn : xs.length + 6 = n) (hc : n ≤ c) (hm : c ≤ maxLen) (hb : BIn w B a (x0 :: x1 :: x2 :: x3 :: x4 :: x5 :: xs)) (hB : B ≤ g) (hBo : B ≤ go) (hx : Byt (x0 :: x1 :: x2 :: x3 :: x4 :: x5 :: xs)) :
    Calls Try.prog 85 #[.pointer (some ⟨g, 0, none⟩), .pointer (some ⟨go, 0, none⟩)] w (RdPost g go 32 (.slice (cutA a c 6) (n - 6) (c - 6)) (.int .u64 (num [x0, x1, x2, x3, x4, x5])) w) := by
  obtain ⟨b, o, rfl, hbB, hcell⟩ := hb (by simp)
  have e0 : w.cell? ⟨b, o, none⟩ = some (.int .u8 x0) := hcell 0 (by simp)
  obtain ⟨l0, h0⟩ := hx x0 (by simp)
  have e1 : w.cell? ⟨b, o + 1, none⟩ = some (.int .u8 x1) := hcell 1 (by simp)
  obtain ⟨l1, h1⟩ := hx x1 (by simp)
  have e2 : w.cell? ⟨b, o + 2, none⟩ = some (.int .u8 x2) := hcell 2 (by simp)
  obtain ⟨l2, h2⟩ := hx x2 (by simp)
  have e3 : w.cell? ⟨b, o + 3, none⟩ = some (.int .u8 x3) := hcell 3 (by simp)
  obtain ⟨l3, h3⟩ := hx x3 (by simp)
  have e4 : w.cell? ⟨b, o + 4, none⟩ = some (.int .u8 x4) := hcell 4 (by simp)
  obtain ⟨l4, h4⟩ := hx x4 (by simp)
  have e5 : w.cell? ⟨b, o + 5, none⟩ = some (.int .u8 x5) := hcell 5 (by simp)
  obtain ⟨l5, h5⟩ := hx x5 (by simp)
  have R := Lib.hid (read_yes g (some ⟨b, o, none⟩) n c 6 w hg (by omega) hc hm)
  have V := Lib.hid (show bits .or .u64 (bits .or .u64 (bits .or .u64 (bits .or .u64 (bits .or .u64 (IntKind.u64.wrap (IntKind.u64.wrap x0 * 1099511627776)) (IntKind.u64.wrap (IntKind.u64.wrap x1 * 4294967296))) (IntKind.u64.wrap (IntKind.u64.wrap x2 * 16777216))) (IntKind.u64.wrap (IntKind.u64.wrap x3 * 65536))) (IntKind.u64.wrap (IntKind.u64.wrap x4 * 256))) (IntKind.u64.wrap x5) = num [x0, x1, x2, x3, x4, x5] by
    rw [w64 l0 (by omega), w64 l1 (by omega), w64 l2 (by omega), w64 l3 (by omega), w64 l4 (by omega), w64 l5 (by omega), w64 (a := x0 * 1099511627776) (by omega) (by omega), w64 (a := x1 * 4294967296) (by omega) (by omega), w64 (a := x2 * 16777216) (by omega) (by omega), w64 (a := x3 * 65536) (by omega) (by omega), w64 (a := x4 * 256) (by omega) (by omega), or_u64 (a := x0 * 1099511627776) (b := x1 * 4294967296) 40 (by omega) (by omega) (by omega) (by omega) (by omega) (by omega), or_u64 (a := x0 * 1099511627776 + x1 * 4294967296) (b := x2 * 16777216) 32 (by omega) (by omega) (by omega) (by omega) (by omega) (by omega), or_u64 (a := x0 * 1099511627776 + x1 * 4294967296 + x2 * 16777216) (b := x3 * 65536) 24 (by omega) (by omega) (by omega) (by omega) (by omega) (by omega), or_u64 (a := x0 * 1099511627776 + x1 * 4294967296 + x2 * 16777216 + x3 * 65536) (b := x4 * 256) 16 (by omega) (by omega) (by omega) (by omega) (by omega) (by omega), or_u64 (a := x0 * 1099511627776 + x1 * 4294967296 + x2 * 16777216 + x3 * 65536 + x4 * 256) (b := x5) 8 (by omega) (by omega) (by omega) (by omega) (by omega) (by omega)]
    simp only [num, List.foldl_cons, List.foldl_nil]; omega)
  have F := fun v u => Lib.hid (rdPost_mk (t := 32) (v := v) (u := u) 1 hg ho hne)
  have q := nil_eql 24 5 Try.underlying24
  have o0 := ho.one
  have of := ho.frozen 0
  have hbg : ¬ b = g := by omega
  have hbo : ¬ b = go := by omega
  clear hcell hn hb hg ho hx
  go_enter Try.func85, Try.ntmps85
  go_wp2_with (go_at_call 101; refine R.out.mono ?_; rintro e w' ⟨rfl, rfl⟩)
  refine region_tail 36 (by kernel_rfl) (by kernel_rfl) ?_
  simp only [List.take_succ_cons, List.take_zero, List.drop_succ_cons, List.drop_zero]
  repeat still_step
  refine wpStill_nil ?_
  rw [V.out]
  go_wp2
  go_ret
  exact ⟨rfl, (F _ _).out⟩

theorem readU48_no (g go : Nat) (a : Option Addr) (n c : Nat) (w : World) (hg : Blk w g 66 #[.slice a n c]) (hn : n < 6) :
    Calls Try.prog 85 #[.pointer (some ⟨g, 0, none⟩), .pointer (some ⟨go, 0, none⟩)] w fun e w' => e = .returned (.bool false) ∧ w = w' := by
  have R := Lib.hid (read_no g a n c 6 w hg (.inr (by omega)))
  have q := nil_eql 24 5 Try.underlying24
  clear hg hn
  go_enter Try.func85, Try.ntmps85
  go_wp2_with (go_at_call 101; refine R.out.mono ?_; rintro e w' ⟨rfl, rfl⟩)
  go_ret
  exact ⟨rfl, rfl⟩

set_option maxRecDepth 100000 in
set_option maxHeartbeats 2000000 in
theorem readU64_yes (g go : Nat) (a : Option Addr) (n c : Nat) (x0 x1 x2 x3 x4 x5 x6 x7 : Int) (xs : List Int) (z : Int) (B : Nat) (w : World) (hg : Blk w g 66 #[.slice a n c]) (ho : Blk w go 32 #[.int .u64 z]) (hne : g ≠ go)
    (hn : xs.length + 8 = n) (hc : n ≤ c) (hm : c ≤ maxLen) (hb : BIn w B a (x0 :: x1 :: x2 :: x3 :: x4 :: x5 :: x6 :: x7 :: xs)) (hB : B ≤ g) (hBo : B ≤ go) (hx : Byt (x0 :: x1 :: x2 :: x3 :: x4 :: x5 :: x6 :: x7 :: xs)) :
    Calls Try.prog 79 #[.pointer (some ⟨g, 0, none⟩), .pointer (some ⟨go, 0, none⟩)] w (RdPost g go 32 (.slice (cutA a c 8) (n - 8) (c - 8)) (.int .u64 (num [x0, x1, x2, x3, x4, x5, x6, x7])) w) := by
  obtain ⟨b, o, rfl, hbB, hcell⟩ := hb (by simp)
  have e0 : w.cell? ⟨b, o, none⟩ = some (.int .u8 x0) := hcell 0 (by simp)
  obtain ⟨l0, h0⟩ := hx x0 (by simp)
  have e1 : w.cell? ⟨b, o + 1, none⟩ = some (.int .u8 x1) := hcell 1 (by simp)
  obtain ⟨l1, h1⟩ := hx x1 (by simp)
  have e2 : w.cell? ⟨b, o + 2, none⟩ = some (.int .u8 x2) := hcell 2 (by simp)
  obtain ⟨l2, h2⟩ := hx x2 (by simp)
  have e3 : w.cell? ⟨b, o + 3, none⟩ = some (.int .u8 x3) := hcell 3 (by simp)
  obtain ⟨l3, h3⟩ := hx x3 (by simp)
  have e4 : w.cell? ⟨b, o + 4, none⟩ = some (.int .u8 x4) := hcell 4 (by simp)
  obtain ⟨l4, h4⟩ := hx x4 (by simp)
  have e5 : w.cell? ⟨b, o + 5, none⟩ = some (.int .u8 x5) := hcell 5 (by simp)
  obtain ⟨l5, h5⟩ := hx x5 (by simp)
  have e6 : w.cell? ⟨b, o + 6, none⟩ = some (.int .u8 x6) := hcell 6 (by simp)
  obtain ⟨l6, h6⟩ := hx x6 (by simp)
  have e7 : w.cell? ⟨b, o + 7, none⟩ = some (.int .u8 x7) := hcell 7 (by simp)
  obtain ⟨l7, h7⟩ := hx x7 (by simp)
  have R := Lib.hid (read_yes g (some ⟨b, o, none⟩) n c 8 w hg (by omega) hc hm)
  have V := Lib.hid (show bits .or .u64 (bits .or .u64 (bits .or .u64 (bits .or .u64 (bits .or .u64 (bits .or .u64 (bits .or .u64 (IntKind.u64.wrap (IntKind.u64.wrap x0 * 72057594037927936)) (IntKind.u64.wrap (IntKind.u64.wrap x1 * 281474976710656))) (IntKind.u64.wrap (IntKind.u64.wrap x2 * 1099511627776))) (IntKind.u64.wrap (IntKind.u64.wrap x3 * 4294967296))) (IntKind.u64.wrap (IntKind.u64.wrap x4 * 16777216))) (IntKind.u64.wrap (IntKind.u64.wrap x5 * 65536))) (IntKind.u64.wrap (IntKind.u64.wrap x6 * 256))) (IntKind.u64.wrap x7) = num [x0, x1, x2, x3, x4, x5, x6, x7] by
    rw [w64 l0 (by omega), w64 l1 (by omega), w64 l2 (by omega), w64 l3 (by omega), w64 l4 (by omega), w64 l5 (by omega), w64 l6 (by omega), w64 l7 (by omega), w64 (a := x0 * 72057594037927936) (by omega) (by omega), w64 (a := x1 * 281474976710656) (by omega) (by omega), w64 (a := x2 * 1099511627776) (by omega) (by omega), w64 (a := x3 * 4294967296) (by omega) (by omega), w64 (a := x4 * 16777216) (by omega) (by omega), w64 (a := x5 * 65536) (by omega) (by omega), w64 (a := x6 * 256) (by omega) (by omega), or_u64 (a := x0 * 72057594037927936) (b := x1 * 281474976710656) 56 (by omega) (by omega) (by omega) (by omega) (by omega) (by omega), or_u64 (a := x0 * 72057594037927936 + x1 * 281474976710656) (b := x2 * 1099511627776) 48 (by omega) (by omega) (by omega) (by omega) (by omega) (by omega), or_u64 (a := x0 * 72057594037927936 + x1 * 281474976710656 + x2 * 1099511627776) (b := x3 * 4294967296) 40 (by omega) (by omega) (by omega) (by omega) (by omega) (by omega), or_u64 (a := x0 * 72057594037927936 + x1 * 281474976710656 + x2 * 1099511627776 + x3 * 4294967296) (b := x4 * 16777216) 32 (by omega) (by omega) (by omega) (by omega) (by omega) (by omega), or_u64 (a := x0 * 72057594037927936 + x1 * 281474976710656 + x2 * 1099511627776 + x3 * 4294967296 + x4 * 16777216) (b := x5 * 65536) 24 (by omega) (by omega) (by omega) (by omega) (by omega) (by omega), or_u64 (a := x0 * 72057594037927936 + x1 * 281474976710656 + x2 * 1099511627776 + x3 * 4294967296 + x4 * 16777216 + x5 * 65536) (b := x6 * 256) 16 (by omega) (by omega) (by omega) (by omega) (by omega) (by omega), or_u64 (a := x0 * 72057594037927936 + x1 * 281474976710656 + x2 * 1099511627776 + x3 * 4294967296 + x4 * 16777216 + x5 * 65536 + x6 * 256) (b := x7) 8 (by omega) (by omega) (by omega) (by omega) (by omega) (by omega)]
    simp only [num, List.foldl_cons, List.foldl_nil]; omega)
  have F := fun v u => Lib.hid (rdPost_mk (t := 32) (v := v) (u := u) 1 hg ho hne)
  have q := nil_eql 24 5 Try.underlying24
  have o0 := ho.one
  have of := ho.frozen 0
  have hbg : ¬ b = g := by omega
  have hbo : ¬ b = go := by omega
  clear hcell hn hb hg ho hx
  go_enter Try.func79, Try.ntmps79
  go_wp2_with (go_at_call 101; refine R.out.mono ?_; rintro e w' ⟨rfl, rfl⟩)
  refine region_tail 48 (by kernel_rfl) (by kernel_rfl) ?_
  simp only [List.take_succ_cons, List.take_zero, List.drop_succ_cons, List.drop_zero]
  repeat still_step
  refine wpStill_nil ?_
  rw [V.out]
  go_wp2
  go_ret
  exact ⟨rfl, (F _ _).out⟩

theorem readU64_no (g go : Nat) (a : Option Addr) (n c : Nat) (w : World) (hg : Blk w g 66 #[.slice a n c]) (hn : n < 8) :
    Calls Try.prog 79 #[.pointer (some ⟨g, 0, none⟩), .pointer (some ⟨go, 0, none⟩)] w fun e w' => e = .returned (.bool false) ∧ w = w' := by
  have R := Lib.hid (read_no g a n c 8 w hg (.inr (by omega)))
  have q := nil_eql 24 5 Try.underlying24
  clear hg hn
  go_enter Try.func79, Try.ntmps79
  go_wp2_with (go_at_call 101; refine R.out.mono ?_; rintro e w' ⟨rfl, rfl⟩)
  go_ret
  exact ⟨rfl, rfl⟩
end Go.Proofs.Ytcimjejbakgadaa
