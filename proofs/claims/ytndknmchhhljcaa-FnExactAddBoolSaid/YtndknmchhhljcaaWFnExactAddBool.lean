/- The walk of laws.FnExactAddBool. (Printed by gen_laws3.py.) -/
import Derived.Test.YtndknmchhhljcaaImpDer
namespace Go.Proofs.Ytndknmchhhljcaa
open Go.RowKit
set_option linter.unusedVariables false

set_option maxRecDepth 100000 in
set_option maxHeartbeats 800000 in
theorem walk_FnExactAddBool (w : World) (v : Bool) :
    Calls Try.prog 13 #[.bool v] w fun e w' => e = .returned (.bool true) ∧ Below w.heap.size w w' := by
  have K := Lib.hid (iBool w v)
  cases v
  · rw [show derWrap 1 [bByte false] = [1, 1, 0] from rfl] at K
    have HX := Lib.hid (show Byt [1, 1, 0] from fun y hy => by simp at hy; rcases hy with rfl | rfl <;> omega)
    have L0 : List.length [(1 : Int), 1, 0] = 3 := rfl
    have HL := Lib.hid L0
    clear L0
    go_enter Try.func13, Try.ntmps13
    go_wp2_with fail
    refine K.out.mono ?_
    rintro e w1 ⟨a1, c1, rfl, p1, p2, p3, p4⟩
    rw [HL.out] at p1 ⊢
    go_wp2_with fail
    have F1 := (Fr.refl [] w1).alloc (.cells #[.int .u8 1, .int .u8 1, .int .u8 0] 5)
    refine (same_any a1 _ 3 c1 3 3 [1, 1, 0] [1, 1, 0] (w1.alloc (.cells #[.int .u8 1, .int .u8 1, .int .u8 0] 5)) _ rfl rfl (F1.bin p3 (by simp)).lt (lit_bin w1 [1, 1, 0] #[.int .u8 1, .int .u8 1, .int .u8 0] 3 rfl rfl (by omega)).lt HX.out HX.out).mono ?_
    rintro e w2 ⟨rfl, rfl⟩
    go_wp2
    go_ret
    exact ⟨ret_bool (by simp), p4.alloc p4.size _⟩
  · rw [show derWrap 1 [bByte true] = [1, 1, 255] from rfl] at K
    have HX := Lib.hid (show Byt [1, 1, 255] from fun y hy => by simp at hy; rcases hy with rfl | rfl <;> omega)
    have L0 : List.length [(1 : Int), 1, 255] = 3 := rfl
    have HL := Lib.hid L0
    clear L0
    go_enter Try.func13, Try.ntmps13
    go_wp2_with fail
    refine K.out.mono ?_
    rintro e w1 ⟨a1, c1, rfl, p1, p2, p3, p4⟩
    rw [HL.out] at p1 ⊢
    go_wp2_with fail
    have F1 := (Fr.refl [] w1).alloc (.cells #[.int .u8 1, .int .u8 1, .int .u8 255] 5)
    refine (same_any a1 _ 3 c1 3 3 [1, 1, 255] [1, 1, 255] (w1.alloc (.cells #[.int .u8 1, .int .u8 1, .int .u8 255] 5)) _ rfl rfl (F1.bin p3 (by simp)).lt (lit_bin w1 [1, 1, 255] #[.int .u8 1, .int .u8 1, .int .u8 255] 3 rfl rfl (by omega)).lt HX.out HX.out).mono ?_
    rintro e w2 ⟨rfl, rfl⟩
    go_wp2
    go_ret
    exact ⟨ret_bool (by simp), p4.alloc p4.size _⟩
end Go.Proofs.Ytndknmchhhljcaa
