/- The contracts of the builder's ASN.1 methods on a new builder, and of the thin package's functions round them. (Printed by gen_impder.py.) -/
import Derived.Test.YtndknmchhhljcaaClosDer
namespace Go.Proofs.Ytndknmchhhljcaa
open Go.RowKit
set_option linter.unusedVariables false

/-- A frame leaves bytes whose block is none of its own. -/
theorem Fr.bin' {S : List Nat} {w w' : World} {B : Nat} {a : Option Addr} {xs : List Int} (h : Fr S w w') (k : BIn w B a xs) (hs : ∀ b, a = some b → b.block ∉ S) : BIn w' B a xs := fun hn => by
  obtain ⟨b, o, e, hb, hc⟩ := k hn
  subst e
  refine ⟨b, o, rfl, hb, fun i hi => ?_⟩
  have hlt := World.block_lt_of_cell? w _ (hc i hi)
  exact (World.cell?_of_block (w := w) (h.block b hlt (hs _ rfl))).trans (hc i hi)
/-- A method on a new builder, and then its bytes. -/
theorem NewB {w : World} : Bld (w.alloc (.cells (bCs (.slice none 0 0) 0 0 false (.pointer none)) 74)) w.heap.size w.heap.size [] 0 0 false (.pointer none) none := Bld.new w


set_option maxRecDepth 100000 in
set_option maxHeartbeats 1600000 in
theorem mBool (base g : Nat) (w : World) (hg : Bld w base g [] 0 0 false (.pointer none) none) (hb : base ≤ w.heap.size) (v : Bool)  :
    Calls Try.prog 93 #[.pointer (some ⟨g, 0, none⟩), .bool v] w (ContAdd base g (derWrap 1 [bByte v]) 0 0 false none w) := by
  have hgl : g < w.heap.size := by obtain ⟨v, k, _⟩ := hg; exact k.lt
  have F1 : Fr [] w (w.alloc (.cells #[.bool v] 4)) := (Fr.refl [] w).alloc _
  have H := Lib.hid (addASN1_ok base g 127 w.heap.size false 1 [] [bByte v] 0 0 none (w.alloc (.cells #[.bool v] 4)) (hg.keep F1) (by omega) (by omega) (by omega) (by simp only [List.length_nil]; simp) (by simp) (by simp; omega) (fun _ _ => by kernel_rfl)
    (fun gc rc ic wa fa ba hba hgc hrc => by
      have hgc' : w.heap.size + 1 ≤ gc := by simpa using hgc
      have hrc' : w.heap.size + 1 ≤ rc := by
        rcases hrc with h | h
        · cases h
        · simpa using h
      have pa := fa.blk (Blk.new w 4 #[.bool v]) (by simp; omega)
      exact clos_bool base gc rc w.heap.size _ _ _ _ _ v wa ba pa (by simp) hba))
  rw [List.nil_append] at H
  have HF := Lib.hid F1
  clear hg F1 
  go_enter Try.func93, Try.ntmps93
  go_wp2_with fail
  refine H.out.mono ?_
  rintro e w2 ⟨ic, hq⟩
  have hq' := Lib.hid (hq.from_ HF.out)
  obtain ⟨rfl, _⟩ := hq
  go_wp2
  go_end0
  exact ⟨ic, hq'.out⟩


set_option maxRecDepth 100000 in
set_option maxHeartbeats 1600000 in
theorem mOct (base g : Nat) (w : World) (hg : Bld w base g [] 0 0 false (.pointer none) none) (hb : base ≤ w.heap.size) (a : Option Addr) (n c : Nat) (ys : List Int) (hn : ys.length = n) (hy : BIn w w.heap.size a ys) (hyg : ∀ b, a = some b → b.block ≠ g) (hl : n ≤ 16000000) :
    Calls Try.prog 116 #[.pointer (some ⟨g, 0, none⟩), .slice a n c] w (ContAdd base g (derWrap 4 ys) 0 0 false none w) := by
  have hgl : g < w.heap.size := by obtain ⟨v, k, _⟩ := hg; exact k.lt
  have F1 : Fr [] w (w.alloc (.cells #[.slice a n c] 22)) := (Fr.refl [] w).alloc _
  have H := Lib.hid (addASN1_ok base g 137 w.heap.size false 4 [] ys 0 0 none (w.alloc (.cells #[.slice a n c] 22)) (hg.keep F1) (by omega) (by omega) (by omega) (by simp only [List.length_nil]; omega) (by omega) (by simp; omega) (fun _ _ => by kernel_rfl)
    (fun gc rc ic wa fa ba hba hgc hrc => by
      have hgc' : w.heap.size + 1 ≤ gc := by simpa using hgc
      have hrc' : w.heap.size + 1 ≤ rc := by
        rcases hrc with h | h
        · cases h
        · simpa using h
      have pa := fa.blk (Blk.new w 22 #[.slice a n c]) (by simp; omega)
      have ya := fa.bin' (F1.bin hy (by simp)) (by simpa using hyg)
      exact clos_oct base gc rc w.heap.size _ ys _ _ _ _ w.heap.size a n c wa ba pa (by omega) (by omega) hn ya (by omega) (by omega) (by simp; omega) hba))
  rw [List.nil_append] at H
  have HF := Lib.hid F1
  clear hg F1 hy hn
  go_enter Try.func116, Try.ntmps116
  go_wp2_with fail
  refine H.out.mono ?_
  rintro e w2 ⟨ic, hq⟩
  have hq' := Lib.hid (hq.from_ HF.out)
  obtain ⟨rfl, _⟩ := hq
  go_wp2
  go_end0
  exact ⟨ic, hq'.out⟩


set_option maxRecDepth 100000 in
set_option maxHeartbeats 1600000 in
theorem mBits (base g : Nat) (w : World) (hg : Bld w base g [] 0 0 false (.pointer none) none) (hb : base ≤ w.heap.size) (a : Option Addr) (n c : Nat) (ys : List Int) (hn : ys.length = n) (hy : BIn w w.heap.size a ys) (hyg : ∀ b, a = some b → b.block ≠ g) (hl : n ≤ 16000000) :
    Calls Try.prog 94 #[.pointer (some ⟨g, 0, none⟩), .slice a n c] w (ContAdd base g (derWrap 3 (0 :: ys)) 0 0 false none w) := by
  have hgl : g < w.heap.size := by obtain ⟨v, k, _⟩ := hg; exact k.lt
  have F1 : Fr [] w (w.alloc (.cells #[.slice a n c] 22)) := (Fr.refl [] w).alloc _
  have H := Lib.hid (addASN1_ok base g 128 w.heap.size false 3 [] (0 :: ys) 0 0 none (w.alloc (.cells #[.slice a n c] 22)) (hg.keep F1) (by omega) (by omega) (by omega) (by simp only [List.length_nil]; simp only [List.length_cons]; omega) (by simp only [List.length_cons]; omega) (by simp; omega) (fun _ _ => by kernel_rfl)
    (fun gc rc ic wa fa ba hba hgc hrc => by
      have hgc' : w.heap.size + 1 ≤ gc := by simpa using hgc
      have hrc' : w.heap.size + 1 ≤ rc := by
        rcases hrc with h | h
        · cases h
        · simpa using h
      have pa := fa.blk (Blk.new w 22 #[.slice a n c]) (by simp; omega)
      have ya := fa.bin' (F1.bin hy (by simp)) (by simpa using hyg)
      exact clos_bits base gc rc w.heap.size _ ys _ _ _ _ w.heap.size a n c wa ba pa (by omega) (by omega) hn ya (by omega) (by omega) (by simp; omega) hba))
  rw [List.nil_append] at H
  have HF := Lib.hid F1
  clear hg F1 hy hn
  go_enter Try.func94, Try.ntmps94
  go_wp2_with fail
  refine H.out.mono ?_
  rintro e w2 ⟨ic, hq⟩
  have hq' := Lib.hid (hq.from_ HF.out)
  obtain ⟨rfl, _⟩ := hq
  go_wp2
  go_end0
  exact ⟨ic, hq'.out⟩


set_option maxRecDepth 100000 in
set_option maxHeartbeats 1600000 in
theorem mUint (base g : Nat) (w : World) (hg : Bld w base g [] 0 0 false (.pointer none) none) (hb : base ≤ w.heap.size) (v : Int) (h0 : 0 ≤ v) (h1 : v < 18446744073709551616) :
    Calls Try.prog 96 #[.pointer (some ⟨g, 0, none⟩), .int .u64 v] w (ContAdd base g (derWrap 2 (uintC v)) 0 0 false none w) := by
  have hgl : g < w.heap.size := by obtain ⟨v, k, _⟩ := hg; exact k.lt
  have F1 : Fr [] w (w.alloc (.cells #[.int .u64 v] 29)) := (Fr.refl [] w).alloc _
  have H := Lib.hid (addASN1_ok base g 129 w.heap.size false 2 [] (uintC v) 0 0 none (w.alloc (.cells #[.int .u64 v] 29)) (hg.keep F1) (by omega) (by omega) (by omega) (by simp only [List.length_nil]; unfold uintC; rw [bigB_len]; have := uintLen_bd v; omega) (by unfold uintC; rw [bigB_len]; have := uintLen_bd v; omega) (by simp; omega) (fun _ _ => by kernel_rfl)
    (fun gc rc ic wa fa ba hba hgc hrc => by
      have hgc' : w.heap.size + 1 ≤ gc := by simpa using hgc
      have hrc' : w.heap.size + 1 ≤ rc := by
        rcases hrc with h | h
        · cases h
        · simpa using h
      have pa := fa.blk (Blk.new w 29 #[.int .u64 v]) (by simp; omega)
      exact clos_uint base gc rc w.heap.size _ _ _ _ _ v wa ba pa (by omega) (by omega) (by simp) hba h0 h1))
  rw [List.nil_append] at H
  have HF := Lib.hid F1
  clear hg F1 h0 h1
  go_enter Try.func96, Try.ntmps96
  go_wp2_with fail
  refine H.out.mono ?_
  rintro e w2 ⟨ic, hq⟩
  have hq' := Lib.hid (hq.from_ HF.out)
  obtain ⟨rfl, _⟩ := hq
  go_wp2
  go_end0
  exact ⟨ic, hq'.out⟩


set_option maxRecDepth 100000 in
set_option maxHeartbeats 1600000 in
theorem mSigned (base g : Nat) (w : World) (hg : Bld w base g [] 0 0 false (.pointer none) none) (hb : base ≤ w.heap.size) (t v : Int) (ht : t % 32 ≠ 31) (t0 : 0 ≤ t) (t1 : t < 256) (h0 : -9223372036854775808 ≤ v) (h1 : v ≤ 9223372036854775807) :
    Calls Try.prog 130 #[.pointer (some ⟨g, 0, none⟩), .int .u8 t, .int .i64 v] w (ContAdd base g (derWrap t (intC v)) 0 0 false none w) := by
  have hgl : g < w.heap.size := by obtain ⟨v, k, _⟩ := hg; exact k.lt
  have F1 : Fr [] w (w.alloc (.cells #[.int .i64 v] 2)) := (Fr.refl [] w).alloc _
  have H := Lib.hid (addASN1_ok base g 148 w.heap.size false t [] (intC v) 0 0 none (w.alloc (.cells #[.int .i64 v] 2)) (hg.keep F1) ht t0 t1 (by simp only [List.length_nil]; unfold intC; rw [bigB_len]; have := intLen_bd v; omega) (by unfold intC; rw [bigB_len]; have := intLen_bd v; omega) (by simp; omega) (fun _ _ => by kernel_rfl)
    (fun gc rc ic wa fa ba hba hgc hrc => by
      have hgc' : w.heap.size + 1 ≤ gc := by simpa using hgc
      have hrc' : w.heap.size + 1 ≤ rc := by
        rcases hrc with h | h
        · cases h
        · simpa using h
      have pa := fa.blk (Blk.new w 2 #[.int .i64 v]) (by simp; omega)
      exact clos_int base gc rc w.heap.size _ _ _ _ _ v wa ba pa (by omega) (by omega) (by simp) hba h0 h1))
  rw [List.nil_append] at H
  have HF := Lib.hid F1
  clear hg F1 h0 h1
  go_enter Try.func130, Try.ntmps130
  go_wp2_with fail
  refine H.out.mono ?_
  rintro e w2 ⟨ic, hq⟩
  have hq' := Lib.hid (hq.from_ HF.out)
  obtain ⟨rfl, _⟩ := hq
  go_wp2
  go_end0
  exact ⟨ic, hq'.out⟩


theorem mInt64 (base g : Nat) (w : World) (hg : Bld w base g [] 0 0 false (.pointer none) none) (hb : base ≤ w.heap.size) (v : Int)  (h0 : -9223372036854775808 ≤ v) (h1 : v ≤ 9223372036854775807) :
    Calls Try.prog 99 #[.pointer (some ⟨g, 0, none⟩), .int .i64 v] w (ContAdd base g (derWrap 2 (intC v)) 0 0 false none w) := by
  have H := Lib.hid (mSigned base g w hg hb 2 v (by omega) (by omega) (by omega) h0 h1)
  clear hg h0 h1
  go_enter Try.func99, Try.ntmps99
  go_wp2_with fail
  refine H.out.mono ?_
  rintro e w2 ⟨ic, hq⟩
  have hq' := Lib.hid hq
  obtain ⟨rfl, _⟩ := hq
  go_wp2
  go_end0
  exact ⟨ic, hq'.out⟩


theorem mEnum (base g : Nat) (w : World) (hg : Bld w base g [] 0 0 false (.pointer none) none) (hb : base ≤ w.heap.size) (v : Int)  (h0 : -9223372036854775808 ≤ v) (h1 : v ≤ 9223372036854775807) :
    Calls Try.prog 98 #[.pointer (some ⟨g, 0, none⟩), .int .i64 v] w (ContAdd base g (derWrap 10 (intC v)) 0 0 false none w) := by
  have H := Lib.hid (mSigned base g w hg hb 10 v (by omega) (by omega) (by omega) h0 h1)
  clear hg h0 h1
  go_enter Try.func98, Try.ntmps98
  go_wp2_with fail
  refine H.out.mono ?_
  rintro e w2 ⟨ic, hq⟩
  have hq' := Lib.hid hq
  obtain ⟨rfl, _⟩ := hq
  go_wp2
  go_end0
  exact ⟨ic, hq'.out⟩


theorem mInt64T (base g : Nat) (w : World) (hg : Bld w base g [] 0 0 false (.pointer none) none) (hb : base ≤ w.heap.size) (v t : Int) (ht : t % 32 ≠ 31) (t0 : 0 ≤ t) (t1 : t < 256) (h0 : -9223372036854775808 ≤ v) (h1 : v ≤ 9223372036854775807) :
    Calls Try.prog 100 #[.pointer (some ⟨g, 0, none⟩), .int .i64 v, .int .u8 t] w (ContAdd base g (derWrap t (intC v)) 0 0 false none w) := by
  have H := Lib.hid (mSigned base g w hg hb t v ht t0 t1 h0 h1)
  clear hg h0 h1
  go_enter Try.func100, Try.ntmps100
  go_wp2_with fail
  refine H.out.mono ?_
  rintro e w2 ⟨ic, hq⟩
  have hq' := Lib.hid hq
  obtain ⟨rfl, _⟩ := hq
  go_wp2
  go_end0
  exact ⟨ic, hq'.out⟩


set_option maxRecDepth 100000 in
set_option maxHeartbeats 1600000 in
theorem iBool (w : World) (v : Bool)  :
    Calls Try.prog 46 #[.bool v] w (GotPost w (derWrap 1 [bByte v])) := by
  obtain ⟨X, hX⟩ : ∃ X, X = derWrap 1 [bByte v] := ⟨_, rfl⟩
  have HXl := Lib.hid (show X.length ≤ 4194304000 by rw [hX]; have := derWrap_len 1 [bByte v]; simp at this ⊢; omega)
  rw [← hX]
  have HX := Lib.hid hX
  obtain ⟨w1, hw1⟩ : ∃ w1, w1 = w.alloc (.cells #[.nilIface, .slice none 0 0, .bool false, .pointer none, .int .i64 0, .int .i64 0, .bool false, .pointer none] 74) := ⟨_, rfl⟩
  have B1 : Bld w1 w.heap.size w.heap.size [] 0 0 false (.pointer none) none := by rw [hw1]; exact Bld.new w
  have F2 : Fr [w.heap.size] w w1 := by rw [hw1]; exact (Fr.refl _ w).alloc _
  have HW := Lib.hid hw1
  have M := Lib.hid (mBool w.heap.size w.heap.size w1 B1 F2.size v)
  clear hX hw1 
  go_enter Try.func46, Try.ntmps46
  go_wp2_with fail
  rw [← HW.out]
  refine M.out.mono ?_
  rintro e w3 ⟨ic, rfl, rb, b3, f3, _⟩
  rw [← HX.out] at b3
  have F3 := F2.trans f3 (by simp)
  clear f3
  go_wp2_with fail
  refine (bytesOf_ok _ _ _ _ _ _ _ _ b3 HXl.out).mono ?_
  rintro e w4 ⟨a4, c4, rfl, q1, q2, q3, q4⟩
  go_wp2
  go_ret2
  exact ⟨a4, c4, rfl, q1, q2, q3, (F3.below (B := w.heap.size) (by simp) (Nat.le_refl _)).trans (q4.mono F3.size)⟩


set_option maxRecDepth 100000 in
set_option maxHeartbeats 1600000 in
theorem iUint (w : World) (v : Int) (h0 : 0 ≤ v) (h1 : v < 18446744073709551616) :
    Calls Try.prog 49 #[.int .u64 v] w (GotPost w (derWrap 2 (uintC v))) := by
  obtain ⟨X, hX⟩ : ∃ X, X = derWrap 2 (uintC v) := ⟨_, rfl⟩
  have HXl := Lib.hid (show X.length ≤ 4194304000 by rw [hX]; have := derWrap_len 2 (uintC v); have h9 := (uintC_ok h0 h1).2.1; omega)
  rw [← hX]
  have HX := Lib.hid hX
  obtain ⟨w1, hw1⟩ : ∃ w1, w1 = w.alloc (.cells #[.nilIface, .slice none 0 0, .bool false, .pointer none, .int .i64 0, .int .i64 0, .bool false, .pointer none] 74) := ⟨_, rfl⟩
  have B1 : Bld w1 w.heap.size w.heap.size [] 0 0 false (.pointer none) none := by rw [hw1]; exact Bld.new w
  have F2 : Fr [w.heap.size] w w1 := by rw [hw1]; exact (Fr.refl _ w).alloc _
  have HW := Lib.hid hw1
  have M := Lib.hid (mUint w.heap.size w.heap.size w1 B1 F2.size v h0 h1)
  clear hX hw1 h0 h1
  go_enter Try.func49, Try.ntmps49
  go_wp2_with fail
  rw [← HW.out]
  refine M.out.mono ?_
  rintro e w3 ⟨ic, rfl, rb, b3, f3, _⟩
  rw [← HX.out] at b3
  have F3 := F2.trans f3 (by simp)
  clear f3
  go_wp2_with fail
  refine (bytesOf_ok _ _ _ _ _ _ _ _ b3 HXl.out).mono ?_
  rintro e w4 ⟨a4, c4, rfl, q1, q2, q3, q4⟩
  go_wp2
  go_ret2
  exact ⟨a4, c4, rfl, q1, q2, q3, (F3.below (B := w.heap.size) (by simp) (Nat.le_refl _)).trans (q4.mono F3.size)⟩


set_option maxRecDepth 100000 in
set_option maxHeartbeats 1600000 in
theorem iInt64 (w : World) (v : Int) (h0 : -9223372036854775808 ≤ v) (h1 : v ≤ 9223372036854775807) :
    Calls Try.prog 53 #[.int .i64 v] w (GotPost w (derWrap 2 (intC v))) := by
  obtain ⟨X, hX⟩ : ∃ X, X = derWrap 2 (intC v) := ⟨_, rfl⟩
  have HXl := Lib.hid (show X.length ≤ 4194304000 by rw [hX]; have := derWrap_len 2 (intC v); have h9 := (intC_ok h0 h1).2.1; omega)
  rw [← hX]
  have HX := Lib.hid hX
  obtain ⟨w1, hw1⟩ : ∃ w1, w1 = w.alloc (.cells #[.nilIface, .slice none 0 0, .bool false, .pointer none, .int .i64 0, .int .i64 0, .bool false, .pointer none] 74) := ⟨_, rfl⟩
  have B1 : Bld w1 w.heap.size w.heap.size [] 0 0 false (.pointer none) none := by rw [hw1]; exact Bld.new w
  have F2 : Fr [w.heap.size] w w1 := by rw [hw1]; exact (Fr.refl _ w).alloc _
  have HW := Lib.hid hw1
  have M := Lib.hid (mInt64 w.heap.size w.heap.size w1 B1 F2.size v h0 h1)
  clear hX hw1 h0 h1
  go_enter Try.func53, Try.ntmps53
  go_wp2_with fail
  rw [← HW.out]
  refine M.out.mono ?_
  rintro e w3 ⟨ic, rfl, rb, b3, f3, _⟩
  rw [← HX.out] at b3
  have F3 := F2.trans f3 (by simp)
  clear f3
  go_wp2_with fail
  refine (bytesOf_ok _ _ _ _ _ _ _ _ b3 HXl.out).mono ?_
  rintro e w4 ⟨a4, c4, rfl, q1, q2, q3, q4⟩
  go_wp2
  go_ret2
  exact ⟨a4, c4, rfl, q1, q2, q3, (F3.below (B := w.heap.size) (by simp) (Nat.le_refl _)).trans (q4.mono F3.size)⟩


set_option maxRecDepth 100000 in
set_option maxHeartbeats 1600000 in
theorem iEnum (w : World) (v : Int) (h0 : -9223372036854775808 ≤ v) (h1 : v ≤ 9223372036854775807) :
    Calls Try.prog 51 #[.int .i64 v] w (GotPost w (derWrap 10 (intC v))) := by
  obtain ⟨X, hX⟩ : ∃ X, X = derWrap 10 (intC v) := ⟨_, rfl⟩
  have HXl := Lib.hid (show X.length ≤ 4194304000 by rw [hX]; have := derWrap_len 10 (intC v); have h9 := (intC_ok h0 h1).2.1; omega)
  rw [← hX]
  have HX := Lib.hid hX
  obtain ⟨w1, hw1⟩ : ∃ w1, w1 = w.alloc (.cells #[.nilIface, .slice none 0 0, .bool false, .pointer none, .int .i64 0, .int .i64 0, .bool false, .pointer none] 74) := ⟨_, rfl⟩
  have B1 : Bld w1 w.heap.size w.heap.size [] 0 0 false (.pointer none) none := by rw [hw1]; exact Bld.new w
  have F2 : Fr [w.heap.size] w w1 := by rw [hw1]; exact (Fr.refl _ w).alloc _
  have HW := Lib.hid hw1
  have M := Lib.hid (mEnum w.heap.size w.heap.size w1 B1 F2.size v h0 h1)
  clear hX hw1 h0 h1
  go_enter Try.func51, Try.ntmps51
  go_wp2_with fail
  rw [← HW.out]
  refine M.out.mono ?_
  rintro e w3 ⟨ic, rfl, rb, b3, f3, _⟩
  rw [← HX.out] at b3
  have F3 := F2.trans f3 (by simp)
  clear f3
  go_wp2_with fail
  refine (bytesOf_ok _ _ _ _ _ _ _ _ b3 HXl.out).mono ?_
  rintro e w4 ⟨a4, c4, rfl, q1, q2, q3, q4⟩
  go_wp2
  go_ret2
  exact ⟨a4, c4, rfl, q1, q2, q3, (F3.below (B := w.heap.size) (by simp) (Nat.le_refl _)).trans (q4.mono F3.size)⟩


set_option maxRecDepth 100000 in
set_option maxHeartbeats 1600000 in
theorem iInt64T (w : World) (v t : Int) (ht : t % 32 ≠ 31) (t0 : 0 ≤ t) (t1 : t ≤ 255) (h0 : -9223372036854775808 ≤ v) (h1 : v ≤ 9223372036854775807) :
    Calls Try.prog 54 #[.int .i64 v, .int .i64 t] w (GotPost w (derWrap t (intC v))) := by
  obtain ⟨X, hX⟩ : ∃ X, X = derWrap t (intC v) := ⟨_, rfl⟩
  have HXl := Lib.hid (show X.length ≤ 4194304000 by rw [hX]; have := derWrap_len t (intC v); have h9 := (intC_ok h0 h1).2.1; omega)
  rw [← hX]
  have HX := Lib.hid hX
  obtain ⟨w1, hw1⟩ : ∃ w1, w1 = w.alloc (.cells #[.nilIface, .slice none 0 0, .bool false, .pointer none, .int .i64 0, .int .i64 0, .bool false, .pointer none] 74) := ⟨_, rfl⟩
  have B1 : Bld w1 w.heap.size w.heap.size [] 0 0 false (.pointer none) none := by rw [hw1]; exact Bld.new w
  have F2 : Fr [w.heap.size] w w1 := by rw [hw1]; exact (Fr.refl _ w).alloc _
  have HW := Lib.hid hw1
  have M := Lib.hid (mInt64T w.heap.size w.heap.size w1 B1 F2.size v t ht t0 (by omega) h0 h1)
  clear hX hw1 h0 h1 ht
  go_enter Try.func54, Try.ntmps54
  go_wp2_with fail
  rw [← HW.out]
  refine M.out.mono ?_
  rintro e w3 ⟨ic, rfl, rb, b3, f3, _⟩
  rw [← HX.out] at b3
  have F3 := F2.trans f3 (by simp)
  clear f3
  go_wp2_with fail
  refine (bytesOf_ok _ _ _ _ _ _ _ _ b3 HXl.out).mono ?_
  rintro e w4 ⟨a4, c4, rfl, q1, q2, q3, q4⟩
  go_wp2
  go_ret2
  exact ⟨a4, c4, rfl, q1, q2, q3, (F3.below (B := w.heap.size) (by simp) (Nat.le_refl _)).trans (q4.mono F3.size)⟩


set_option maxRecDepth 100000 in
set_option maxHeartbeats 1600000 in
theorem iOct (w : World) (a : Option Addr) (n c : Nat) (ys : List Int) (hn : ys.length = n) (hy : BIn w w.heap.size a ys) (hl : n ≤ 15000000) :
    Calls Try.prog 68 #[.slice a n c] w (GotPost w (derWrap 4 ys)) := by
  obtain ⟨X, hX⟩ : ∃ X, X = derWrap 4 ys := ⟨_, rfl⟩
  have HXl := Lib.hid (show X.length ≤ 4194304000 by rw [hX]; have := derWrap_len 4 ys; omega)
  rw [← hX]
  have HX := Lib.hid hX
  obtain ⟨w1, hw1⟩ : ∃ w1, w1 = w.alloc (.cells #[.nilIface, .slice none 0 0, .bool false, .pointer none, .int .i64 0, .int .i64 0, .bool false, .pointer none] 74) := ⟨_, rfl⟩
  have B1 : Bld w1 w.heap.size w.heap.size [] 0 0 false (.pointer none) none := by rw [hw1]; exact Bld.new w
  have F1 : Fr [] w w1 := by rw [hw1]; exact (Fr.refl _ w).alloc _
  have l1 : w.heap.size < w1.heap.size := by rw [hw1]; simp
  have HW := Lib.hid hw1
  have C := Lib.hid (copied_any a n c ys w1 hn (F1.bin hy (by simp)).lt (by omega))
  have Hn := Lib.hid hn
  clear hX hw1 hn hy
  go_enter Try.func68, Try.ntmps68
  go_wp2_with fail
  rw [← HW.out]
  refine C.out.mono ?_
  rintro e w2 ⟨a2, c2, rfl, p1, p2, p3, p4, p5, p6⟩
  have B2 := B1.keep (Fr.of_below p5 [])
  have F2 : Fr [w.heap.size] w w2 := (F1.mono (by simp)).trans (Fr.of_below p5 []) (by simp)
  have M := Lib.hid (mOct w.heap.size w.heap.size w2 B2 F2.size a2 n c2 ys Hn.out p3 (fun b hb => by
    have := (p6.lt b.block (by rw [hb]; rfl)).1
    omega) (by omega))
  clear p3 p4 p6 B1 B2 F1
  go_wp2_with fail
  refine M.out.mono ?_
  rintro e w3 ⟨ic, rfl, rb, b3, f3, _⟩
  rw [← HX.out] at b3
  have F3 := F2.trans f3 (by simp)
  clear f3
  go_wp2_with fail
  refine (bytesOf_ok _ _ _ _ _ _ _ _ b3 HXl.out).mono ?_
  rintro e w4 ⟨a4, c4, rfl, q1, q2, q3, q4⟩
  go_wp2
  go_ret2
  exact ⟨a4, c4, rfl, q1, q2, q3, (F3.below (B := w.heap.size) (by simp) (Nat.le_refl _)).trans (q4.mono F3.size)⟩


set_option maxRecDepth 100000 in
set_option maxHeartbeats 1600000 in
theorem iBits (w : World) (a : Option Addr) (n c : Nat) (ys : List Int) (hn : ys.length = n) (hy : BIn w w.heap.size a ys) (hl : n ≤ 15000000) :
    Calls Try.prog 47 #[.slice a n c] w (GotPost w (derWrap 3 (0 :: ys))) := by
  obtain ⟨X, hX⟩ : ∃ X, X = derWrap 3 (0 :: ys) := ⟨_, rfl⟩
  have HXl := Lib.hid (show X.length ≤ 4194304000 by rw [hX]; have := derWrap_len 3 (0 :: ys); simp at this ⊢; omega)
  rw [← hX]
  have HX := Lib.hid hX
  obtain ⟨w1, hw1⟩ : ∃ w1, w1 = w.alloc (.cells #[.nilIface, .slice none 0 0, .bool false, .pointer none, .int .i64 0, .int .i64 0, .bool false, .pointer none] 74) := ⟨_, rfl⟩
  have B1 : Bld w1 w.heap.size w.heap.size [] 0 0 false (.pointer none) none := by rw [hw1]; exact Bld.new w
  have F1 : Fr [] w w1 := by rw [hw1]; exact (Fr.refl _ w).alloc _
  have l1 : w.heap.size < w1.heap.size := by rw [hw1]; simp
  have HW := Lib.hid hw1
  have C := Lib.hid (copied_any a n c ys w1 hn (F1.bin hy (by simp)).lt (by omega))
  have Hn := Lib.hid hn
  clear hX hw1 hn hy
  go_enter Try.func47, Try.ntmps47
  go_wp2_with fail
  rw [← HW.out]
  refine C.out.mono ?_
  rintro e w2 ⟨a2, c2, rfl, p1, p2, p3, p4, p5, p6⟩
  have B2 := B1.keep (Fr.of_below p5 [])
  have F2 : Fr [w.heap.size] w w2 := (F1.mono (by simp)).trans (Fr.of_below p5 []) (by simp)
  have M := Lib.hid (mBits w.heap.size w.heap.size w2 B2 F2.size a2 n c2 ys Hn.out p3 (fun b hb => by
    have := (p6.lt b.block (by rw [hb]; rfl)).1
    omega) (by omega))
  clear p3 p4 p6 B1 B2 F1
  go_wp2_with fail
  refine M.out.mono ?_
  rintro e w3 ⟨ic, rfl, rb, b3, f3, _⟩
  rw [← HX.out] at b3
  have F3 := F2.trans f3 (by simp)
  clear f3
  go_wp2_with fail
  refine (bytesOf_ok _ _ _ _ _ _ _ _ b3 HXl.out).mono ?_
  rintro e w4 ⟨a4, c4, rfl, q1, q2, q3, q4⟩
  go_wp2
  go_ret2
  exact ⟨a4, c4, rfl, q1, q2, q3, (F3.below (B := w.heap.size) (by simp) (Nat.le_refl _)).trans (q4.mono F3.size)⟩


set_option maxRecDepth 100000 in
set_option maxHeartbeats 1600000 in
theorem iASN1 (w : World) (t : Int) (a : Option Addr) (n c : Nat) (ys : List Int) (ht : t % 32 ≠ 31) (t0 : 0 ≤ t) (t1 : t ≤ 255) (hn : ys.length = n) (hy : BIn w w.heap.size a ys) (hl : n ≤ 15000000) :
    Calls Try.prog 62 #[.int .i64 t, .slice a n c] w (GotPost w (derWrap t ys)) := by
  obtain ⟨X, hX⟩ : ∃ X, X = derWrap t ys := ⟨_, rfl⟩
  have HXl := Lib.hid (show X.length ≤ 4194304000 by rw [hX]; have := derWrap_len t ys; omega)
  rw [← hX]
  have HX := Lib.hid hX
  obtain ⟨w1, hw1⟩ : ∃ w1, w1 = (w.alloc (.cells #[.slice a n c] 22)).alloc (.cells #[.nilIface, .slice none 0 0, .bool false, .pointer none, .int .i64 0, .int .i64 0, .bool false, .pointer none] 74) := ⟨_, rfl⟩
  have B1 : Bld w1 w.heap.size (w.heap.size + 1) [] 0 0 false (.pointer none) none := by rw [hw1]; exact ⟨_, Blk.new' (by simp) _ _, OwnB.nil _ _ _, rfl⟩
  have P1 : Blk w1 w.heap.size 22 #[.slice a n c] := by rw [hw1]; exact (Blk.new _ _ _).alloc _
  have F2 : Fr [w.heap.size + 1] w w1 := by rw [hw1]; exact ((Fr.refl _ w).alloc _).alloc _
  have Y1 : BIn w1 w.heap.size a ys := F2.bin hy (by simp)
  have HW := Lib.hid hw1
  have M := Lib.hid (addASN1_ok w.heap.size (w.heap.size + 1) 111 w.heap.size false t [] ys 0 0 none w1 B1 ht t0 (by omega) (by simp; omega) (by omega) F2.size (fun _ _ => by kernel_rfl)
    (fun gc rc ic wa fa ba hba hgc hrc => by
      have l1 := P1.lt
      have hrc' : w.heap.size + 1 ≤ rc := by
        rcases hrc with h | h
        · cases h
        · omega
      exact clos_add w.heap.size gc rc w.heap.size _ ys _ _ _ _ w.heap.size a n c wa ba (fa.blk P1 (by simp)) (by omega) (by omega) hn (fa.bin Y1 (by simp)) (by omega) (by omega) (by simp; omega) hba))
  rw [List.nil_append] at M
  have hmf : ∀ (fn : Fn) (first cap : Array Value) (w : World), (Instr.makeFunc fn first cap).run Try.prog w = .ok (.func fn first cap) w := fun _ _ _ _ => rfl
  clear hX hw1 hn hy Y1 B1 P1 ht
  go_enter Try.func62, Try.ntmps62
  go_wp2_with fail
  rw [← HW.out]
  refine M.out.mono ?_
  rintro e w3 ⟨ic, rfl, rb, b3, f3, _⟩
  rw [← HX.out] at b3
  have F3 := F2.trans f3 (by simp)
  clear f3
  go_wp2_with fail
  refine (bytesOf_ok _ _ _ _ _ _ _ _ b3 HXl.out).mono ?_
  rintro e w4 ⟨a4, c4, rfl, q1, q2, q3, q4⟩
  go_wp2
  go_ret2
  exact ⟨a4, c4, rfl, q1, q2, q3, (F3.below (B := w.heap.size) (by simp) (Nat.le_refl _)).trans (q4.mono F3.size)⟩
end Go.Proofs.Ytndknmchhhljcaa
