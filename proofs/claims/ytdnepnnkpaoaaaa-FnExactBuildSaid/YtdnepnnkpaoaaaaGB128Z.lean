/- addBase128Int of 0. -/
import Derived.Test.YtdnepnnkpaoaaaaGB128
namespace Go.Proofs.Ytdnepnnkpaoaaaa
open Go.RowKit
set_option linter.unusedVariables false

set_option maxRecDepth 100000 in
set_option maxHeartbeats 1600000 in
theorem addB128_zero (K : Kd) (base g : Nat) (xs : List Int) (off pl : Int) (pa : Bool) (ic : Value) (rb : Option Nat) (w : World)
    (hg : Bld K w base g xs off pl pa ic rb) (hl : xs.length + 1 ≤ K.lim) (hb : base ≤ w.heap.size) :
    Calls Try.prog 55 #[.pointer (some ⟨g, 0, none⟩), .int .i64 0] w (AddPost K base g (xs ++ [0]) off pl pa ic rb w) := by
  have Hg := Lib.hid hg
  have H0 := Lib.hid hb
  clear hg
  go_enter Try.func55, Try.ntmps55
  go_wp2_with fail
  obtain ⟨w0, hw0⟩ : ∃ w0, w0 = w := ⟨_, rfl⟩
  have Hw0 := Lib.hid hw0
  clear hw0
  go_loopw [6] (fun i wr => (i = .int .i64 0 ∧ wr = w) ∨ (i = .int .i64 (-1) ∧ AddPost K base g (xs ++ [0]) off pl pa ic rb w (.returned (.tuple #[])) wr)) (fun i _ => (intOf i + 1).toNat)
  case atStart => exact .inl ⟨by go_num, rfl⟩
  case round =>
    rcases hrel with ⟨rfl, rfl⟩ | ⟨rfl, hq⟩
    · go_wp2_with fail
      rw [show bits BinOp.and IntKind.u8 0 127 = 0 by decide +kernel]
      refine (add_any K base g xs [0] off pl pa ic rb (some ⟨wr.heap.size, 0, none⟩) 1 1 _ (Hg.out.keep ((Fr.refl [] wr).alloc _)) rfl ((lit_bin wr [0] #[.int .u8 0] 1 rfl rfl (by omega)).lt) hl (by simp; omega)).mono ?_
      intro e w5 hq
      have hq' := Lib.hid (hq.from_ ((Fr.refl [] wr).alloc _))
      obtain ⟨rfl, _⟩ := hq
      go_wp2_with fail
      go_roundw
      case rel => exact .inr ⟨by go_num, hq'.out⟩
      case measure => first | (simp [intOf]; done) | (simp [intOf]; omega)
    · have HQ := Lib.hid hq
      clear hq
      go_wp2_with fail
      go_end0
      exact HQ.out
theorem addB128_all (K : Kd) (base g : Nat) (xs : List Int) (off pl : Int) (pa : Bool) (ic : Value) (rb : Option Nat) (v : Nat) (w : World)
    (hg : Bld K w base g xs off pl pa ic rb) (hl : xs.length + (enc v).length ≤ K.lim) (hb : base ≤ w.heap.size) (hv : v ≤ 2147483647) :
    Calls Try.prog 55 #[.pointer (some ⟨g, 0, none⟩), .int .i64 v] w (AddPost K base g (xs ++ enc v) off pl pa ic rb w) := by
  rcases Nat.eq_zero_or_pos v with rfl | h0
  · exact addB128_zero K base g xs off pl pa ic rb w hg hl hb
  · exact addB128_any K base g xs off pl pa ic rb v w hg hl hb hv h0
end Go.Proofs.Ytdnepnnkpaoaaaa
