/- Contracts of small functions of the laws and of the reference: fits, tagOk, Number. -/
import Derived.Test.YtcimjejbakgadaaRead0
import Derived.Test.YtcimjejbakgadaaNum
namespace Go.Proofs.Ytcimjejbakgadaa
open Go.RowKit

theorem ret_bool {a b : Bool} (h : a = b) : Ending.returned (.bool a) = .returned (.bool b) := by rw [h]
theorem ret_int {k : IntKind} {a b : Int} (h : a = b) : Ending.returned (.int k a) = .returned (.int k b) := by rw [h]

theorem fits_any (a : Option Addr) (n c : Nat) (w : World) (h : n ≤ 1048576) :
    Calls Try.prog 32 #[.slice a n c] w fun e w' => e = .returned (.bool true) ∧ w = w' := by
  go_enter Try.func32, Try.ntmps32
  go_wp2
  go_ret
  exact ⟨ret_bool (by simp; omega), rfl⟩
theorem fits_no (a : Option Addr) (n c : Nat) (w : World) (h : 1048576 < n) :
    Calls Try.prog 32 #[.slice a n c] w fun e w' => e = .returned (.bool false) ∧ w = w' := by
  go_enter Try.func32, Try.ntmps32
  go_wp2
  go_ret
  exact ⟨ret_bool (by simp; omega), rfl⟩
theorem tagOk_yes (t : Int) (w : World) (h0 : 0 ≤ t) (h1 : t ≤ 255) :
    Calls Try.prog 30 #[.int .i64 t] w fun e w' => e = .returned (.bool true) ∧ w = w' := by
  go_enter Try.func30, Try.ntmps30
  go_wp2
  go_ret
  exact ⟨ret_bool (by simp), rfl⟩
theorem tagOk_no (t : Int) (w : World) (h : t < 0 ∨ 255 < t) :
    Calls Try.prog 30 #[.int .i64 t] w fun e w' => e = .returned (.bool false) ∧ w = w' := by
  rcases h with h | h
  · go_enter Try.func30, Try.ntmps30
    go_wp2
    go_ret
    exact ⟨rfl, rfl⟩
  · have h0 : 0 ≤ t := by omega
    go_enter Try.func30, Try.ntmps30
    go_wp2
    go_ret
    exact ⟨ret_bool (by simp; omega), rfl⟩

theorem number_no (a : Option Addr) (n c : Nat) (k : Int) (w : World) (h : (n : Int) < k) :
    Calls Try.prog 38 #[.slice a n c, .int .i64 k] w fun e w' => e = .returned (.tuple #[.int .u64 0, .bool false]) ∧ w = w' := by
  go_enter Try.func38, Try.ntmps38
  go_wp2
  go_ret2
  exact ⟨rfl, rfl⟩

theorem u64_step {r x : Int} (h0 : 0 ≤ r) (h1 : r < 72057594037927936) (h2 : 0 ≤ x) (h3 : x < 256) : IntKind.u64.wrap (IntKind.u64.wrap (r * 256) + x) = r * 256 + x := by
  rw [w64 (a := r * 256) (by omega) (by omega), w64 (by omega) (by omega)]

set_option maxHeartbeats 400000 in
theorem number_yes (a : Option Addr) (n c k : Nat) (xs : List Int) (w : World) (B : Nat) (hn : xs.length = n) (hk : k ≤ n) (h8 : k ≤ 8) (hb : BIn w B a xs) (hx : Byt xs) :
    Calls Try.prog 38 #[.slice a n c, .int .i64 k] w fun e w' => e = .returned (.tuple #[.int .u64 (num (xs.take k)), .bool true]) ∧ w = w' := by
  have Hn := Lib.hid hn
  clear hn
  go_enter Try.func38, Try.ntmps38
  go_wp2
  go_loop [6, 7] (fun r i => ∃ j : Nat, j ≤ k ∧ i = .int .i64 j ∧ r = .int .u64 (num (xs.take j))) (fun _ i => k - (intOf i).toNat)
  case atStart => exact ⟨0, Nat.zero_le _, rfl, rfl⟩
  case round =>
    obtain ⟨j, hj, rfl, rfl⟩ := hrel
    by_cases hlt : j < k
    · have hl : j < xs.length := by have := Hn.out; omega
      obtain ⟨b, o, rfl, _, hc⟩ := hb.at_ hl
      have g := hx.getD j
      have s0 := num_small (xs.take j) 7 (hx.take j) (by simp; omega)
      have S := Lib.hid (num_take_succ hl)
      have U := Lib.hid (u64_step s0.1 (by simpa using s0.2) g.1 g.2)
      clear hb hx s0
      generalize xs.getD j 0 = x at *
      generalize num (xs.take j) = r at *
      have hjn : j < n := by omega
      go_wp2
      go_round
      case rel => exact ⟨j + 1, by omega, by go_num, by rw [U.out, S.out]⟩
      case measure => simp [intOf]; omega
    · have : j = k := by omega
      subst this
      go_wp2
      go_ret2
      exact ⟨rfl, rfl⟩
end Go.Proofs.Ytcimjejbakgadaa
