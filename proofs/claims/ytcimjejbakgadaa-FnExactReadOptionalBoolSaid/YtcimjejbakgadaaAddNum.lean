/- Contracts of (*Builder).AddUint8, AddUint24, AddUint48, AddBytes, AddASN1NULL, and of the thin package's functions round them. -/
import Derived.Test.YtcimjejbakgadaaBld
import Derived.Test.YtcimjejbakgadaaSpecBig
namespace Go.Proofs.Ytcimjejbakgadaa
open Go.RowKit
set_option linter.unusedVariables false

theorem OwnB.keep {w w' : World} {base e : Nat} {v : Value} {xs : List Int} (h : OwnB w base e v xs) (hf : Fr [] w w') : OwnB w' base e v xs := h.fr hf (fun _ _ => by simp)
-- NUMS (printed by gen_addnum.py)
theorem bigB_16 {v : Int} (h0 : 0 ≤ v) (h1 : v ≤ 65535) : bigB 2 v = [v / 256, v % 256] := by
  simp only [bigB, List.nil_append, List.cons_append, List.cons.injEq, and_true]
  omega
theorem bigB_24 {v : Int} (h0 : 0 ≤ v) (h1 : v ≤ 4294967295) : bigB 3 v = [v / 65536 % 256, v / 256 % 256, v % 256] := by
  simp only [bigB, List.nil_append, List.cons_append, List.cons.injEq, and_true]
  omega
theorem bigB_32 {v : Int} (h0 : 0 ≤ v) (h1 : v ≤ 4294967295) : bigB 4 v = [v / 16777216, v / 65536 % 256, v / 256 % 256, v % 256] := by
  simp only [bigB, List.nil_append, List.cons_append, List.cons.injEq, and_true]
  omega
theorem bigB_48 {v : Int} (h0 : 0 ≤ v) (h1 : v ≤ 281474976710655) : bigB 6 v = [v / 1099511627776, v / 4294967296 % 256, v / 16777216 % 256, v / 65536 % 256, v / 256 % 256, v % 256] := by
  simp only [bigB, List.nil_append, List.cons_append, List.cons.injEq, and_true]
  omega
theorem bigB_64 {v : Int} (h0 : 0 ≤ v) (h1 : v ≤ 18446744073709551615) : bigB 8 v = [v / 72057594037927936, v / 281474976710656 % 256, v / 1099511627776 % 256, v / 4294967296 % 256, v / 16777216 % 256, v / 65536 % 256, v / 256 % 256, v % 256] := by
  simp only [bigB, List.nil_append, List.cons_append, List.cons.injEq, and_true]
  omega
-- SMUN

end Go.Proofs.Ytcimjejbakgadaa
