/- The walk of laws.FnExactPeekTag. -/
import Derived.Test.YtcimjejbakgadaaRead3
namespace Go.Proofs.Ytcimjejbakgadaa
open Go.RowKit
set_option linter.unusedVariables false

set_option maxRecDepth 100000 in
set_option maxHeartbeats 800000 in
theorem walk_FnExactPeekTag (w : World) (a : Option Addr) (n c : Nat) (xs : List Int) (hn : xs.length = n) (hb : BIn w w.heap.size a xs) (hx : Byt xs) (hc : n ≤ c) (hm : c ≤ maxLen) (t : Int) (wt : (Lit.int .i64 t).wf = true) :
    Calls Try.prog 5 #[.slice a n c, .int .i64 t] w fun e w' => e = .returned (.bool true) ∧ Below w.heap.size w w' := by
  by_cases hz : n ≤ 2147483647
  · by_cases ht : 0 ≤ t ∧ t ≤ 255
    · have T := Lib.hid (tagOk_yes t w ht.1 ht.2)
      rcases xs with _ | ⟨x, r⟩
      · simp at hn
        subst hn
        have R := Lib.hid (iPeekTag_nil a c t w hb)
        clear ht wt hb hx
        go_enter Try.func5, Try.ntmps5
        go_wp2_with fail
        refine T.out.mono ?_
        rintro e w' ⟨rfl, rfl⟩
        go_wp2_with fail
        refine R.out.mono ?_
        rintro e w1 ⟨rfl, p1⟩
        go_wp2
        go_ret
        exact ⟨rfl, p1⟩
      · have hn' : r.length + 1 = n := by simpa using hn
        have R := Lib.hid (iPeekTag_cons a n c x t r w hn' hb (by omega) ht.1 ht.2)
        obtain ⟨b, o, rfl, _, hcell⟩ := hb (by simp)
        have e0 : w.cell? ⟨b, o, none⟩ = some (.int .u8 x) := hcell 0 (by simp)
        have hbs := World.block_lt_of_cell? w _ e0
        obtain ⟨x0, x1⟩ := hx x (by simp)
        have i0 : (0 : Int) < (n : Int) := by omega
        clear ht wt hn hn' hx hcell
        go_enter Try.func5, Try.ntmps5
        go_wp2_with fail
        refine T.out.mono ?_
        rintro e w' ⟨rfl, rfl⟩
        go_wp2_with fail
        refine R.out.mono ?_
        rintro e w1 ⟨rfl, p1⟩
        have e1 : w1.cell? ⟨b, o, none⟩ = some (.int .u8 x) := (p1.cell (p := ⟨b, o, none⟩) hbs).trans e0
        clear e0 hb R T
        go_wp2
        go_ret
        exact ⟨ret_bool (by simp), p1⟩
    · have T := Lib.hid (tagOk_no t w (by omega))
      clear ht wt
      go_enter Try.func5, Try.ntmps5
      go_wp2_with fail
      refine T.out.mono ?_
      rintro e w' ⟨rfl, rfl⟩
      go_wp2
      go_ret
      exact ⟨rfl, Below.refl _ _⟩
  · clear wt
    go_enter Try.func5, Try.ntmps5
    go_wp2
    go_ret
    exact ⟨rfl, Below.refl _ _⟩
end Go.Proofs.Ytcimjejbakgadaa
