/- Contracts of small functions of the laws and of the reference: fits, tagOk, Number. -/
import Derived.Test.YtdnepnnkpaoaaaaRead0
import Derived.Test.YtdnepnnkpaoaaaaMA
namespace Go.Proofs.Ytdnepnnkpaoaaaa
open Go.RowKit

theorem ret_bool {a b : Bool} (h : a = b) : Ending.returned (.bool a) = .returned (.bool b) := by rw [h]
theorem ret_int {k : IntKind} {a b : Int} (h : a = b) : Ending.returned (.int k a) = .returned (.int k b) := by rw [h]

theorem tagOk_yes (t : Int) (w : World) (h0 : 0 ≤ t) (h1 : t ≤ 255) :
    Calls Try.prog 25 #[.int .i64 t] w fun e w' => e = .returned (.bool true) ∧ w = w' := by
  go_enter Try.func25, Try.ntmps25
  go_wp2
  go_ret
  exact ⟨ret_bool (by simp), rfl⟩
theorem tagOk_no (t : Int) (w : World) (h : t < 0 ∨ 255 < t) :
    Calls Try.prog 25 #[.int .i64 t] w fun e w' => e = .returned (.bool false) ∧ w = w' := by
  rcases h with h | h
  · go_enter Try.func25, Try.ntmps25
    go_wp2
    go_ret
    exact ⟨rfl, rfl⟩
  · have h0 : 0 ≤ t := by omega
    go_enter Try.func25, Try.ntmps25
    go_wp2
    go_ret
    exact ⟨ret_bool (by simp; omega), rfl⟩

theorem u64_step {r x : Int} (h0 : 0 ≤ r) (h1 : r < 72057594037927936) (h2 : 0 ≤ x) (h3 : x < 256) : IntKind.u64.wrap (IntKind.u64.wrap (r * 256) + x) = r * 256 + x := by
  rw [w64 (a := r * 256) (by omega) (by omega), w64 (by omega) (by omega)]

end Go.Proofs.Ytdnepnnkpaoaaaa
