/- The contract of (*Builder).AddASN1 on a builder that has had no continuation yet, where the tag is one of one byte and the continuation adds bytes and returns. -/
import Derived.Test.YtcimjejbakgadaaLenAdd
import Derived.Test.YtcimjejbakgadaaFlushA0
import Derived.Test.YtcimjejbakgadaaFlushA1
import Derived.Test.YtcimjejbakgadaaFlushA2
import Derived.Test.YtcimjejbakgadaaFlushA3
namespace Go.Proofs.Ytcimjejbakgadaa
open Go.RowKit
set_option linter.unusedVariables false

theorem and31' {x : Int} (h0 : 0 ≤ x) (h1 : x < 256) : bits .and .u8 x 31 = x % 32 := by
  rw [u8_and x 31 h0 h1 (by omega) (by omega)]
  have h : x.toNat &&& (31 : Int).toNat = x.toNat % 32 := nat_mask5 x.toNat
  rw [h]; omega

theorem der_short (xs out : List Int) (t : Int) (h : out.length ≤ 127) : xs ++ derWrap t out = (xs ++ [t]) ++ ((out.length : Int) :: out) := by
  unfold derWrap derHdr
  rw [if_pos (by omega)]
  simp
theorem der_long (xs out : List Int) (t : Int) (m : Nat) (h : 128 ≤ out.length) (hm : lenB out.length = m) : xs ++ derWrap t out = (xs ++ [t]) ++ ((128 + (m : Int)) :: (bigB m out.length ++ out)) := by
  unfold derWrap derHdr
  rw [if_neg (by omega), hm]
  simp

end Go.Proofs.Ytcimjejbakgadaa
