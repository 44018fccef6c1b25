/- Contracts of (*Builder).AddUint8, AddUint24, AddUint48, AddBytes, AddASN1NULL, and of the thin package's functions round them. -/
import Derived.Test.YtndknmchhhljcaaBld
import Derived.Test.YtndknmchhhljcaaSpecBig
namespace Go.Proofs.Ytndknmchhhljcaa
open Go.RowKit
set_option linter.unusedVariables false

theorem OwnB.keep {w w' : World} {base e : Nat} {v : Value} {xs : List Int} (h : OwnB w base e v xs) (hf : Fr [] w w') : OwnB w' base e v xs := h.fr hf (fun _ _ => by simp)
theorem Bld.keep {w w' : World} {base g : Nat} {xs : List Int} {off pl : Int} {pa : Bool} {ic : Value} {rb : Option Nat} (h : Bld w base g xs off pl pa ic rb) (hf : Fr [] w w') : Bld w' base g xs off pl pa ic rb := by
  obtain ⟨v, h1, h2, h3⟩ := h
  exact ⟨v, hf.blk h1 (by simp), h2.keep hf, h3⟩
theorem Bld.fr {S : List Nat} {w w' : World} {base g : Nat} {xs : List Int} {off pl : Int} {pa : Bool} {ic : Value} {rb : Option Nat} (h : Bld w base g xs off pl pa ic rb) (hf : Fr S w w') (hg : g ∉ S) (hr : ∀ k, rb = some k → k ∉ S) : Bld w' base g xs off pl pa ic rb := by
  obtain ⟨v, h1, h2, h3⟩ := h
  exact ⟨v, hf.blk h1 hg, h2.fr hf (fun k hk => hr k (by rw [← h3]; exact hk)), h3⟩
/-- Steps ahead that turn nothing of what was there. -/
theorem AddPost.from_ {base g : Nat} {xs : List Int} {off pl : Int} {pa : Bool} {ic : Value} {rb : Option Nat} {w w1 w' : World} {e : Ending} (hf : Fr [] w w1) (h : AddPost base g xs off pl pa ic rb w1 e w') : AddPost base g xs off pl pa ic rb w e w' := by
  obtain ⟨he, rb', h1, h2, h3⟩ := h
  exact ⟨he, rb', h1, (hf.mono (by simp)).trans h2 (fun i hi => .inl hi), h3.imp id fun ⟨k, h4, h5⟩ => ⟨k, h4, Nat.le_trans hf.size h5⟩⟩
/-- A new builder: 'var b cryptobyte.Builder'. -/
theorem Bld.new (w : World) : Bld (w.alloc (.cells (bCs (.slice none 0 0) 0 0 false (.pointer none)) 74)) w.heap.size w.heap.size [] 0 0 false (.pointer none) none :=
  ⟨_, Blk.new _ _ _, OwnB.nil _ _ _, rfl⟩

set_option maxHeartbeats 800000 in
theorem addU8_any (base g : Nat) (xs : List Int) (off pl : Int) (pa : Bool) (ic : Value) (rb : Option Nat) (v : Int) (w : World)
    (hg : Bld w base g xs off pl pa ic rb) (hl : xs.length + 1 ≤ 4194304000) (hb : base ≤ w.heap.size) :
    Calls Try.prog 82 #[.pointer (some ⟨g, 0, none⟩), .int .u8 v] w (AddPost base g (xs ++ [v]) off pl pa ic rb w) := by
  have F := (Fr.refl [] w).alloc (.cells #[.int .u8 v] 5)
  have C := Lib.hid (add_any base g xs [v] off pl pa ic rb (some ⟨w.heap.size, 0, none⟩) 1 1 (w.alloc (.cells #[.int .u8 v] 5)) (hg.keep F) rfl ((lit_bin w [v] #[.int .u8 v] 1 rfl rfl (by omega)).lt) hl (by simp; omega))
  have HF := Lib.hid F
  clear hg F
  go_enter Try.func82, Try.ntmps82
  go_wp2_with fail
  refine C.out.mono ?_
  intro e w1 hq
  have hq' := Lib.hid (hq.from_ HF.out)
  obtain ⟨rfl, _⟩ := hq
  go_wp2
  go_end0
  exact hq'.out

-- NUMS (printed by gen_addnum.py)
theorem bigB_16 {v : Int} (h0 : 0 ≤ v) (h1 : v ≤ 65535) : bigB 2 v = [v / 256, v % 256] := by
  simp only [bigB, List.nil_append, List.cons_append, List.cons.injEq, and_true]
  omega
theorem bigB_24 {v : Int} (h0 : 0 ≤ v) (h1 : v ≤ 4294967295) : bigB 3 v = [v / 65536 % 256, v / 256 % 256, v % 256] := by
  simp only [bigB, List.nil_append, List.cons_append, List.cons.injEq, and_true]
  omega
set_option maxRecDepth 100000 in
set_option maxHeartbeats 800000 in
theorem addU24_any (base g : Nat) (xs : List Int) (off pl : Int) (pa : Bool) (ic : Value) (rb : Option Nat) (v : Int) (w : World)
    (hg : Bld w base g xs off pl pa ic rb) (hl : xs.length + 3 ≤ 4194304000) (hb : base ≤ w.heap.size) (h0 : 0 ≤ v) (h1 : v ≤ 4294967295) :
    Calls Try.prog 80 #[.pointer (some ⟨g, 0, none⟩), .int .u32 v] w (AddPost base g (xs ++ bigB 3 v) off pl pa ic rb w) := by
  have E := bigB_24 h0 h1
  have F := (Fr.refl [] w).alloc (.cells #[.int .u8 (v / 65536 % 256), .int .u8 (v / 256 % 256), .int .u8 (v % 256)] 5)
  have C := Lib.hid (add_any base g xs [v / 65536 % 256, v / 256 % 256, v % 256] off pl pa ic rb (some ⟨w.heap.size, 0, none⟩) 3 3 (w.alloc (.cells #[.int .u8 (v / 65536 % 256), .int .u8 (v / 256 % 256), .int .u8 (v % 256)] 5)) (hg.keep F) rfl ((lit_bin w [v / 65536 % 256, v / 256 % 256, v % 256] #[.int .u8 (v / 65536 % 256), .int .u8 (v / 256 % 256), .int .u8 (v % 256)] 3 rfl rfl (by omega)).lt) hl (by simp; omega))
  rw [← E] at C
  have HF := Lib.hid F
  clear hg F E
  go_enter Try.func80, Try.ntmps80
  go_wp2_with fail
  refine C.out.mono ?_
  intro e w1 hq
  have hq' := Lib.hid (hq.from_ HF.out)
  obtain ⟨rfl, _⟩ := hq
  go_wp2
  go_end0
  exact hq'.out

theorem bigB_32 {v : Int} (h0 : 0 ≤ v) (h1 : v ≤ 4294967295) : bigB 4 v = [v / 16777216, v / 65536 % 256, v / 256 % 256, v % 256] := by
  simp only [bigB, List.nil_append, List.cons_append, List.cons.injEq, and_true]
  omega
theorem bigB_48 {v : Int} (h0 : 0 ≤ v) (h1 : v ≤ 281474976710655) : bigB 6 v = [v / 1099511627776, v / 4294967296 % 256, v / 16777216 % 256, v / 65536 % 256, v / 256 % 256, v % 256] := by
  simp only [bigB, List.nil_append, List.cons_append, List.cons.injEq, and_true]
  omega
set_option maxRecDepth 100000 in
set_option maxHeartbeats 800000 in
theorem addU48_any (base g : Nat) (xs : List Int) (off pl : Int) (pa : Bool) (ic : Value) (rb : Option Nat) (v : Int) (w : World)
    (hg : Bld w base g xs off pl pa ic rb) (hl : xs.length + 6 ≤ 4194304000) (hb : base ≤ w.heap.size) (h0 : 0 ≤ v) (h1 : v ≤ 281474976710655) :
    Calls Try.prog 81 #[.pointer (some ⟨g, 0, none⟩), .int .u64 v] w (AddPost base g (xs ++ bigB 6 v) off pl pa ic rb w) := by
  have E := bigB_48 h0 h1
  have F := (Fr.refl [] w).alloc (.cells #[.int .u8 (v / 1099511627776), .int .u8 (v / 4294967296 % 256), .int .u8 (v / 16777216 % 256), .int .u8 (v / 65536 % 256), .int .u8 (v / 256 % 256), .int .u8 (v % 256)] 5)
  have C := Lib.hid (add_any base g xs [v / 1099511627776, v / 4294967296 % 256, v / 16777216 % 256, v / 65536 % 256, v / 256 % 256, v % 256] off pl pa ic rb (some ⟨w.heap.size, 0, none⟩) 6 6 (w.alloc (.cells #[.int .u8 (v / 1099511627776), .int .u8 (v / 4294967296 % 256), .int .u8 (v / 16777216 % 256), .int .u8 (v / 65536 % 256), .int .u8 (v / 256 % 256), .int .u8 (v % 256)] 5)) (hg.keep F) rfl ((lit_bin w [v / 1099511627776, v / 4294967296 % 256, v / 16777216 % 256, v / 65536 % 256, v / 256 % 256, v % 256] #[.int .u8 (v / 1099511627776), .int .u8 (v / 4294967296 % 256), .int .u8 (v / 16777216 % 256), .int .u8 (v / 65536 % 256), .int .u8 (v / 256 % 256), .int .u8 (v % 256)] 6 rfl rfl (by omega)).lt) hl (by simp; omega))
  rw [← E] at C
  have HF := Lib.hid F
  clear hg F E
  go_enter Try.func81, Try.ntmps81
  go_wp2_with fail
  refine C.out.mono ?_
  intro e w1 hq
  have hq' := Lib.hid (hq.from_ HF.out)
  obtain ⟨rfl, _⟩ := hq
  go_wp2
  go_end0
  exact hq'.out

theorem bigB_64 {v : Int} (h0 : 0 ≤ v) (h1 : v ≤ 18446744073709551615) : bigB 8 v = [v / 72057594037927936, v / 281474976710656 % 256, v / 1099511627776 % 256, v / 4294967296 % 256, v / 16777216 % 256, v / 65536 % 256, v / 256 % 256, v % 256] := by
  simp only [bigB, List.nil_append, List.cons_append, List.cons.injEq, and_true]
  omega
-- SMUN

theorem addBytes_any (base g : Nat) (xs ys : List Int) (off pl : Int) (pa : Bool) (ic : Value) (rb : Option Nat) (a : Option Addr) (n c : Nat) (w : World)
    (hg : Bld w base g xs off pl pa ic rb) (hn : ys.length = n) (hy : BIn w w.heap.size a ys) (hl : xs.length + n ≤ 4194304000) (hb : base ≤ w.heap.size) :
    Calls Try.prog 77 #[.pointer (some ⟨g, 0, none⟩), .slice a n c] w (AddPost base g (xs ++ ys) off pl pa ic rb w) := by
  have C := Lib.hid (add_any base g xs ys off pl pa ic rb a n c w hg hn hy hl hb)
  clear hg hn hy
  go_enter Try.func77, Try.ntmps77
  go_wp2_with fail
  refine C.out.mono ?_
  intro e w1 hq
  have hq' := Lib.hid hq
  obtain ⟨rfl, _⟩ := hq
  go_wp2
  go_end0
  exact hq'.out

set_option maxHeartbeats 800000 in
theorem addNull_any (base g : Nat) (xs : List Int) (off pl : Int) (pa : Bool) (ic : Value) (rb : Option Nat) (w : World)
    (hg : Bld w base g xs off pl pa ic rb) (hl : xs.length + 2 ≤ 4194304000) (hb : base ≤ w.heap.size) :
    Calls Try.prog 87 #[.pointer (some ⟨g, 0, none⟩)] w (AddPost base g (xs ++ [5, 0]) off pl pa ic rb w) := by
  have F := (Fr.refl [] w).alloc (.cells #[.int .u8 5, .int .u8 0] 5)
  have C := Lib.hid (add_any base g xs [5, 0] off pl pa ic rb (some ⟨w.heap.size, 0, none⟩) 2 2 (w.alloc (.cells #[.int .u8 5, .int .u8 0] 5)) (hg.keep F) rfl ((lit_bin w [5, 0] #[.int .u8 5, .int .u8 0] 2 rfl rfl (by omega)).lt) hl (by simp; omega))
  have HF := Lib.hid F
  clear hg F
  go_enter Try.func87, Try.ntmps87
  go_wp2_with fail
  refine C.out.mono ?_
  intro e w1 hq
  have hq' := Lib.hid (hq.from_ HF.out)
  obtain ⟨rfl, _⟩ := hq
  go_wp2
  go_end0
  exact hq'.out
end Go.Proofs.Ytndknmchhhljcaa
