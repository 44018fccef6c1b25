/- The contracts of ReadASN1Enum and ReadASN1Boolean, where there is one, and of the thin package's functions round them. (Printed by gen_yes.py.) -/
import Derived.Test.YtcimjejbakgadaaImpInt
import Derived.Test.YtcimjejbakgadaaClosDer
namespace Go.Proofs.Ytcimjejbakgadaa
open Go.RowKit
set_option linter.unusedVariables false

set_option maxRecDepth 100000 in
set_option maxHeartbeats 1600000 in
theorem readBool_yes (g go : Nat) (n : Nat) (xs : List Int) (v z : Bool) (rest : List Int) (B : Nat) (w : World)
    (hs : SlB w B g 66 n xs) (ho : Blk w go 4 #[.bool z]) (h1 : g ≠ go) (hB : B ≤ g) (hBo : B ≤ go) (hl : Lim n) (hf : firstOf xs 1 = some ([bByte v], rest))  :
    Calls Try.prog 109 #[.pointer (some ⟨g, 0, none⟩), .pointer (some ⟨go, 0, none⟩)] w fun e w' => e = .returned (.bool true) ∧ Fr [g, go] w w' ∧ SlB w' B g 66 rest.length rest ∧ Blk w' go 4 #[.bool v] := by
  have hg1 : g < w.heap.size := by obtain ⟨a, c, k, _⟩ := hs; exact k.lt
  have hg2 : go < w.heap.size := ho.lt
  obtain ⟨w1, hw1⟩ : ∃ w1, w1 = w.alloc (.cells #[.slice none 0 0] 66) := ⟨_, rfl⟩
  have q1 : Fr [] w w1 := by rw [hw1]; exact (Fr.refl _ w).alloc _
  have q2 : Has w1 B w.heap.size 66 := ⟨0, [], ⟨none, 0, by rw [hw1]; exact Blk.new _ _ _, Nat.le_refl _, by simp [maxLen], rfl, BIn.nil _ _ _, Byt.nil⟩, by unfold Lim; omega⟩
  have H := Lib.hid (readASN1t_any g w.heap.size n xs 1 B w1 (hs.fr q1 (by simp) (by simp)) q2 (by omega) hB (by omega) hl)
  have Ho := Lib.hid (q1.blk ho (by simp))
  have F : ∀ w', Fr [g, w.heap.size] w1 w' → Fr [g, go] w w' := fun w' f => (q1.mono (S' := [g, go]) (by simp)).trans f (by simp)
  have F' := Lib.hid F
  have Hf := Lib.hid hf
  clear hs ho q1 q2 F hf
  cases v
  · rw [show bByte false = 0 from rfl] at Hf
    go_enter Try.func109, Try.ntmps109
    go_wp2_with fail
    rw [← hw1]
    refine H.out.mono ?_
    intro e w' hp
    unfold AsnPost at hp
    rw [Hf.out] at hp
    obtain ⟨rfl, f, s1, ⟨a3, c3, d1, d2, d3, d4, d5, d6⟩⟩ := hp
    obtain ⟨b, o, rfl, hbB, hc⟩ := d5 (by simp)
    have e0 : w'.cell? ⟨b, o, none⟩ = some (.int .u8 0) := hc 0 (by simp)
    rw [show [(0 : Int)].length = 1 from rfl] at d1 d2 d4
    have c0 := d1.one
    have HF := Lib.hid f
    have Hs1 := Lib.hid s1
    have k := f.blk Ho.out (by simp; omega)
    have g0 := k.one
    have gf := k.frozen 0
    have K := Lib.hid k
    clear f s1 d4 d5 d6 hw1 k hc d1
    go_wp2_with fail
    go_ret
    have f3 : Fr [go] w' (w'.setCell ⟨go, 0, none⟩ (.bool false)) := (Fr.refl [go] w').set_ (p := ⟨go, 0, none⟩) (.inl (by simp)) _
    exact ⟨rfl, (F'.out _ HF.out).trans f3 (by simp), Hs1.out.fr f3 (by simp; omega) (by simp; omega), K.out.set_ 0 _⟩
  · rw [show bByte true = 255 from rfl] at Hf
    go_enter Try.func109, Try.ntmps109
    go_wp2_with fail
    rw [← hw1]
    refine H.out.mono ?_
    intro e w' hp
    unfold AsnPost at hp
    rw [Hf.out] at hp
    obtain ⟨rfl, f, s1, ⟨a3, c3, d1, d2, d3, d4, d5, d6⟩⟩ := hp
    obtain ⟨b, o, rfl, hbB, hc⟩ := d5 (by simp)
    have e0 : w'.cell? ⟨b, o, none⟩ = some (.int .u8 255) := hc 0 (by simp)
    rw [show [(255 : Int)].length = 1 from rfl] at d1 d2 d4
    have c0 := d1.one
    have HF := Lib.hid f
    have Hs1 := Lib.hid s1
    have k := f.blk Ho.out (by simp; omega)
    have g0 := k.one
    have gf := k.frozen 0
    have K := Lib.hid k
    clear f s1 d4 d5 d6 hw1 k hc d1
    go_wp2_with fail
    go_ret
    have f3 : Fr [go] w' (w'.setCell ⟨go, 0, none⟩ (.bool true)) := (Fr.refl [go] w').set_ (p := ⟨go, 0, none⟩) (.inl (by simp)) _
    exact ⟨rfl, (F'.out _ HF.out).trans f3 (by simp), Hs1.out.fr f3 (by simp; omega) (by simp; omega), K.out.set_ 0 _⟩

end Go.Proofs.Ytcimjejbakgadaa
