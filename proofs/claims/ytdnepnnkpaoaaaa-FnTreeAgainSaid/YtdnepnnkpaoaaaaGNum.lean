/- Contracts of (*Builder).AddUint8, AddUint24, AddUint48, AddBytes, AddASN1NULL, and of the thin package's functions round them. -/
import Derived.Test.YtdnepnnkpaoaaaaGBld
import Derived.Test.YtdnepnnkpaoaaaaSpecBig
namespace Go.Proofs.Ytdnepnnkpaoaaaa
open Go.RowKit
set_option linter.unusedVariables false

theorem OwnB.keep {w w' : World} {base e : Nat} {v : Value} {xs : List Int} (h : OwnB w base e v xs) (hf : Fr [] w w') : OwnB w' base e v xs := h.fr hf (fun _ _ => by simp)
theorem Bld.keep {K : Kd} {w w' : World} {base g : Nat} {xs : List Int} {off pl : Int} {pa : Bool} {ic : Value} {rb : Option Nat} (h : Bld K w base g xs off pl pa ic rb) (hf : Fr [] w w') : Bld K w' base g xs off pl pa ic rb := by
  obtain ⟨v, h1, h2, h3, h4⟩ := h
  exact ⟨v, hf.blk h1 (by simp), h2.keep hf, h3, h4⟩
theorem Bld.fr {S : List Nat} {K : Kd} {w w' : World} {base g : Nat} {xs : List Int} {off pl : Int} {pa : Bool} {ic : Value} {rb : Option Nat} (h : Bld K w base g xs off pl pa ic rb) (hf : Fr S w w') (hg : g ∉ S) (hr : ∀ k, rb = some k → k ∉ S) : Bld K w' base g xs off pl pa ic rb := by
  obtain ⟨v, h1, h2, h3, h4⟩ := h
  exact ⟨v, hf.blk h1 hg, h2.fr hf (fun k hk => hr k (by rw [← h3]; exact hk)), h3, h4⟩
/-- Steps ahead that turn nothing of what was there. -/
theorem AddPost.from_ {K : Kd} {base g : Nat} {xs : List Int} {off pl : Int} {pa : Bool} {ic : Value} {rb : Option Nat} {w w1 w' : World} {e : Ending} (hf : Fr [] w w1) (h : AddPost K base g xs off pl pa ic rb w1 e w') : AddPost K base g xs off pl pa ic rb w e w' := by
  obtain ⟨he, rb', h1, h2, h3⟩ := h
  exact ⟨he, rb', h1, (hf.mono (by simp)).trans h2 (fun i hi => .inl hi), h3.imp id fun ⟨k, h4, h5⟩ => ⟨k, h4, Nat.le_trans hf.size h5⟩⟩
/-- A new builder: 'var b cryptobyte.Builder'. -/
def Kd.free : Kd := ⟨none, 4194303000, by omega⟩
theorem Bld.new (w : World) : Bld Kd.free (w.alloc (.cells (bCs false (.slice none 0 0) 0 0 false (.pointer none)) 65)) w.heap.size w.heap.size [] 0 0 false (.pointer none) none :=
  ⟨_, Blk.new _ _ _, OwnB.nil _ _ _, rfl, fun _ h => by cases h⟩

set_option maxHeartbeats 800000 in
theorem addU8_any (K : Kd) (base g : Nat) (xs : List Int) (off pl : Int) (pa : Bool) (ic : Value) (rb : Option Nat) (v : Int) (w : World)
    (hg : Bld K w base g xs off pl pa ic rb) (hl : xs.length + 1 ≤ K.lim) (hb : base ≤ w.heap.size) :
    Calls Try.prog 58 #[.pointer (some ⟨g, 0, none⟩), .int .u8 v] w (AddPost K base g (xs ++ [v]) off pl pa ic rb w) := by
  have F := (Fr.refl [] w).alloc (.cells #[.int .u8 v] 5)
  have C := Lib.hid (add_any K base g xs [v] off pl pa ic rb (some ⟨w.heap.size, 0, none⟩) 1 1 (w.alloc (.cells #[.int .u8 v] 5)) (hg.keep F) rfl ((lit_bin w [v] #[.int .u8 v] 1 rfl rfl (by omega)).lt) hl (by simp; omega))
  have HF := Lib.hid F
  clear hg F
  go_enter Try.func58, Try.ntmps58
  go_wp2_with fail
  refine C.out.mono ?_
  intro e w1 hq
  have hq' := Lib.hid (hq.from_ HF.out)
  obtain ⟨rfl, _⟩ := hq
  go_wp2
  go_end0
  exact hq'.out

-- NUMS (printed by gen_addnum.py)
theorem bigB_16 {v : Int} (h0 : 0 ≤ v) (h1 : v ≤ 65535) : bigB 2 v = [v / 256, v % 256] := by
  simp only [bigB, List.nil_append, List.cons_append, List.cons.injEq, and_true]
  omega
set_option maxRecDepth 100000 in
set_option maxHeartbeats 800000 in
theorem addU16_any (K : Kd) (base g : Nat) (xs : List Int) (off pl : Int) (pa : Bool) (ic : Value) (rb : Option Nat) (v : Int) (w : World)
    (hg : Bld K w base g xs off pl pa ic rb) (hl : xs.length + 2 ≤ K.lim) (hb : base ≤ w.heap.size) (h0 : 0 ≤ v) (h1 : v ≤ 65535) :
    Calls Try.prog 69 #[.pointer (some ⟨g, 0, none⟩), .int .u16 v] w (AddPost K base g (xs ++ bigB 2 v) off pl pa ic rb w) := by
  have E := bigB_16 h0 h1
  have F := (Fr.refl [] w).alloc (.cells #[.int .u8 (v / 256), .int .u8 (v % 256)] 5)
  have C := Lib.hid (add_any K base g xs [v / 256, v % 256] off pl pa ic rb (some ⟨w.heap.size, 0, none⟩) 2 2 (w.alloc (.cells #[.int .u8 (v / 256), .int .u8 (v % 256)] 5)) (hg.keep F) rfl ((lit_bin w [v / 256, v % 256] #[.int .u8 (v / 256), .int .u8 (v % 256)] 2 rfl rfl (by omega)).lt) hl (by simp; omega))
  rw [← E] at C
  have HF := Lib.hid F
  clear hg F E
  go_enter Try.func69, Try.ntmps69
  go_wp2_with fail
  refine C.out.mono ?_
  intro e w1 hq
  have hq' := Lib.hid (hq.from_ HF.out)
  obtain ⟨rfl, _⟩ := hq
  go_wp2
  go_end0
  exact hq'.out

theorem bigB_24 {v : Int} (h0 : 0 ≤ v) (h1 : v ≤ 4294967295) : bigB 3 v = [v / 65536 % 256, v / 256 % 256, v % 256] := by
  simp only [bigB, List.nil_append, List.cons_append, List.cons.injEq, and_true]
  omega
set_option maxRecDepth 100000 in
set_option maxHeartbeats 800000 in
theorem addU24_any (K : Kd) (base g : Nat) (xs : List Int) (off pl : Int) (pa : Bool) (ic : Value) (rb : Option Nat) (v : Int) (w : World)
    (hg : Bld K w base g xs off pl pa ic rb) (hl : xs.length + 3 ≤ K.lim) (hb : base ≤ w.heap.size) (h0 : 0 ≤ v) (h1 : v ≤ 4294967295) :
    Calls Try.prog 70 #[.pointer (some ⟨g, 0, none⟩), .int .u32 v] w (AddPost K base g (xs ++ bigB 3 v) off pl pa ic rb w) := by
  have E := bigB_24 h0 h1
  have F := (Fr.refl [] w).alloc (.cells #[.int .u8 (v / 65536 % 256), .int .u8 (v / 256 % 256), .int .u8 (v % 256)] 5)
  have C := Lib.hid (add_any K base g xs [v / 65536 % 256, v / 256 % 256, v % 256] off pl pa ic rb (some ⟨w.heap.size, 0, none⟩) 3 3 (w.alloc (.cells #[.int .u8 (v / 65536 % 256), .int .u8 (v / 256 % 256), .int .u8 (v % 256)] 5)) (hg.keep F) rfl ((lit_bin w [v / 65536 % 256, v / 256 % 256, v % 256] #[.int .u8 (v / 65536 % 256), .int .u8 (v / 256 % 256), .int .u8 (v % 256)] 3 rfl rfl (by omega)).lt) hl (by simp; omega))
  rw [← E] at C
  have HF := Lib.hid F
  clear hg F E
  go_enter Try.func70, Try.ntmps70
  go_wp2_with fail
  refine C.out.mono ?_
  intro e w1 hq
  have hq' := Lib.hid (hq.from_ HF.out)
  obtain ⟨rfl, _⟩ := hq
  go_wp2
  go_end0
  exact hq'.out

theorem bigB_32 {v : Int} (h0 : 0 ≤ v) (h1 : v ≤ 4294967295) : bigB 4 v = [v / 16777216, v / 65536 % 256, v / 256 % 256, v % 256] := by
  simp only [bigB, List.nil_append, List.cons_append, List.cons.injEq, and_true]
  omega
set_option maxRecDepth 100000 in
set_option maxHeartbeats 800000 in
theorem addU32_any (K : Kd) (base g : Nat) (xs : List Int) (off pl : Int) (pa : Bool) (ic : Value) (rb : Option Nat) (v : Int) (w : World)
    (hg : Bld K w base g xs off pl pa ic rb) (hl : xs.length + 4 ≤ K.lim) (hb : base ≤ w.heap.size) (h0 : 0 ≤ v) (h1 : v ≤ 4294967295) :
    Calls Try.prog 71 #[.pointer (some ⟨g, 0, none⟩), .int .u32 v] w (AddPost K base g (xs ++ bigB 4 v) off pl pa ic rb w) := by
  have E := bigB_32 h0 h1
  have F := (Fr.refl [] w).alloc (.cells #[.int .u8 (v / 16777216), .int .u8 (v / 65536 % 256), .int .u8 (v / 256 % 256), .int .u8 (v % 256)] 5)
  have C := Lib.hid (add_any K base g xs [v / 16777216, v / 65536 % 256, v / 256 % 256, v % 256] off pl pa ic rb (some ⟨w.heap.size, 0, none⟩) 4 4 (w.alloc (.cells #[.int .u8 (v / 16777216), .int .u8 (v / 65536 % 256), .int .u8 (v / 256 % 256), .int .u8 (v % 256)] 5)) (hg.keep F) rfl ((lit_bin w [v / 16777216, v / 65536 % 256, v / 256 % 256, v % 256] #[.int .u8 (v / 16777216), .int .u8 (v / 65536 % 256), .int .u8 (v / 256 % 256), .int .u8 (v % 256)] 4 rfl rfl (by omega)).lt) hl (by simp; omega))
  rw [← E] at C
  have HF := Lib.hid F
  clear hg F E
  go_enter Try.func71, Try.ntmps71
  go_wp2_with fail
  refine C.out.mono ?_
  intro e w1 hq
  have hq' := Lib.hid (hq.from_ HF.out)
  obtain ⟨rfl, _⟩ := hq
  go_wp2
  go_end0
  exact hq'.out

theorem bigB_48 {v : Int} (h0 : 0 ≤ v) (h1 : v ≤ 281474976710655) : bigB 6 v = [v / 1099511627776, v / 4294967296 % 256, v / 16777216 % 256, v / 65536 % 256, v / 256 % 256, v % 256] := by
  simp only [bigB, List.nil_append, List.cons_append, List.cons.injEq, and_true]
  omega
set_option maxRecDepth 100000 in
set_option maxHeartbeats 800000 in
theorem addU48_any (K : Kd) (base g : Nat) (xs : List Int) (off pl : Int) (pa : Bool) (ic : Value) (rb : Option Nat) (v : Int) (w : World)
    (hg : Bld K w base g xs off pl pa ic rb) (hl : xs.length + 6 ≤ K.lim) (hb : base ≤ w.heap.size) (h0 : 0 ≤ v) (h1 : v ≤ 281474976710655) :
    Calls Try.prog 72 #[.pointer (some ⟨g, 0, none⟩), .int .u64 v] w (AddPost K base g (xs ++ bigB 6 v) off pl pa ic rb w) := by
  have E := bigB_48 h0 h1
  have F := (Fr.refl [] w).alloc (.cells #[.int .u8 (v / 1099511627776), .int .u8 (v / 4294967296 % 256), .int .u8 (v / 16777216 % 256), .int .u8 (v / 65536 % 256), .int .u8 (v / 256 % 256), .int .u8 (v % 256)] 5)
  have C := Lib.hid (add_any K base g xs [v / 1099511627776, v / 4294967296 % 256, v / 16777216 % 256, v / 65536 % 256, v / 256 % 256, v % 256] off pl pa ic rb (some ⟨w.heap.size, 0, none⟩) 6 6 (w.alloc (.cells #[.int .u8 (v / 1099511627776), .int .u8 (v / 4294967296 % 256), .int .u8 (v / 16777216 % 256), .int .u8 (v / 65536 % 256), .int .u8 (v / 256 % 256), .int .u8 (v % 256)] 5)) (hg.keep F) rfl ((lit_bin w [v / 1099511627776, v / 4294967296 % 256, v / 16777216 % 256, v / 65536 % 256, v / 256 % 256, v % 256] #[.int .u8 (v / 1099511627776), .int .u8 (v / 4294967296 % 256), .int .u8 (v / 16777216 % 256), .int .u8 (v / 65536 % 256), .int .u8 (v / 256 % 256), .int .u8 (v % 256)] 6 rfl rfl (by omega)).lt) hl (by simp; omega))
  rw [← E] at C
  have HF := Lib.hid F
  clear hg F E
  go_enter Try.func72, Try.ntmps72
  go_wp2_with fail
  refine C.out.mono ?_
  intro e w1 hq
  have hq' := Lib.hid (hq.from_ HF.out)
  obtain ⟨rfl, _⟩ := hq
  go_wp2
  go_end0
  exact hq'.out

theorem bigB_64 {v : Int} (h0 : 0 ≤ v) (h1 : v ≤ 18446744073709551615) : bigB 8 v = [v / 72057594037927936, v / 281474976710656 % 256, v / 1099511627776 % 256, v / 4294967296 % 256, v / 16777216 % 256, v / 65536 % 256, v / 256 % 256, v % 256] := by
  simp only [bigB, List.nil_append, List.cons_append, List.cons.injEq, and_true]
  omega
set_option maxRecDepth 100000 in
set_option maxHeartbeats 800000 in
theorem addU64_any (K : Kd) (base g : Nat) (xs : List Int) (off pl : Int) (pa : Bool) (ic : Value) (rb : Option Nat) (v : Int) (w : World)
    (hg : Bld K w base g xs off pl pa ic rb) (hl : xs.length + 8 ≤ K.lim) (hb : base ≤ w.heap.size) (h0 : 0 ≤ v) (h1 : v ≤ 18446744073709551615) :
    Calls Try.prog 73 #[.pointer (some ⟨g, 0, none⟩), .int .u64 v] w (AddPost K base g (xs ++ bigB 8 v) off pl pa ic rb w) := by
  have E := bigB_64 h0 h1
  have F := (Fr.refl [] w).alloc (.cells #[.int .u8 (v / 72057594037927936), .int .u8 (v / 281474976710656 % 256), .int .u8 (v / 1099511627776 % 256), .int .u8 (v / 4294967296 % 256), .int .u8 (v / 16777216 % 256), .int .u8 (v / 65536 % 256), .int .u8 (v / 256 % 256), .int .u8 (v % 256)] 5)
  have C := Lib.hid (add_any K base g xs [v / 72057594037927936, v / 281474976710656 % 256, v / 1099511627776 % 256, v / 4294967296 % 256, v / 16777216 % 256, v / 65536 % 256, v / 256 % 256, v % 256] off pl pa ic rb (some ⟨w.heap.size, 0, none⟩) 8 8 (w.alloc (.cells #[.int .u8 (v / 72057594037927936), .int .u8 (v / 281474976710656 % 256), .int .u8 (v / 1099511627776 % 256), .int .u8 (v / 4294967296 % 256), .int .u8 (v / 16777216 % 256), .int .u8 (v / 65536 % 256), .int .u8 (v / 256 % 256), .int .u8 (v % 256)] 5)) (hg.keep F) rfl ((lit_bin w [v / 72057594037927936, v / 281474976710656 % 256, v / 1099511627776 % 256, v / 4294967296 % 256, v / 16777216 % 256, v / 65536 % 256, v / 256 % 256, v % 256] #[.int .u8 (v / 72057594037927936), .int .u8 (v / 281474976710656 % 256), .int .u8 (v / 1099511627776 % 256), .int .u8 (v / 4294967296 % 256), .int .u8 (v / 16777216 % 256), .int .u8 (v / 65536 % 256), .int .u8 (v / 256 % 256), .int .u8 (v % 256)] 8 rfl rfl (by omega)).lt) hl (by simp; omega))
  rw [← E] at C
  have HF := Lib.hid F
  clear hg F E
  go_enter Try.func73, Try.ntmps73
  go_wp2_with fail
  refine C.out.mono ?_
  intro e w1 hq
  have hq' := Lib.hid (hq.from_ HF.out)
  obtain ⟨rfl, _⟩ := hq
  go_wp2
  go_end0
  exact hq'.out
-- SMUN

theorem addBytes_any (K : Kd) (base g : Nat) (xs ys : List Int) (off pl : Int) (pa : Bool) (ic : Value) (rb : Option Nat) (a : Option Addr) (n c : Nat) (w : World)
    (hg : Bld K w base g xs off pl pa ic rb) (hn : ys.length = n) (hy : BIn w w.heap.size a ys) (hl : xs.length + n ≤ K.lim) (hb : base ≤ w.heap.size) :
    Calls Try.prog 42 #[.pointer (some ⟨g, 0, none⟩), .slice a n c] w (AddPost K base g (xs ++ ys) off pl pa ic rb w) := by
  have C := Lib.hid (add_any K base g xs ys off pl pa ic rb a n c w hg hn hy hl hb)
  clear hg hn hy
  go_enter Try.func42, Try.ntmps42
  go_wp2_with fail
  refine C.out.mono ?_
  intro e w1 hq
  have hq' := Lib.hid hq
  obtain ⟨rfl, _⟩ := hq
  go_wp2
  go_end0
  exact hq'.out

set_option maxHeartbeats 800000 in
theorem addNull_any (K : Kd) (base g : Nat) (xs : List Int) (off pl : Int) (pa : Bool) (ic : Value) (rb : Option Nat) (w : World)
    (hg : Bld K w base g xs off pl pa ic rb) (hl : xs.length + 2 ≤ K.lim) (hb : base ≤ w.heap.size) :
    Calls Try.prog 84 #[.pointer (some ⟨g, 0, none⟩)] w (AddPost K base g (xs ++ [5, 0]) off pl pa ic rb w) := by
  have F := (Fr.refl [] w).alloc (.cells #[.int .u8 5, .int .u8 0] 5)
  have C := Lib.hid (add_any K base g xs [5, 0] off pl pa ic rb (some ⟨w.heap.size, 0, none⟩) 2 2 (w.alloc (.cells #[.int .u8 5, .int .u8 0] 5)) (hg.keep F) rfl ((lit_bin w [5, 0] #[.int .u8 5, .int .u8 0] 2 rfl rfl (by omega)).lt) hl (by simp; omega))
  have HF := Lib.hid F
  clear hg F
  go_enter Try.func84, Try.ntmps84
  go_wp2_with fail
  refine C.out.mono ?_
  intro e w1 hq
  have hq' := Lib.hid (hq.from_ HF.out)
  obtain ⟨rfl, _⟩ := hq
  go_wp2
  go_end0
  exact hq'.out
end Go.Proofs.Ytdnepnnkpaoaaaa
