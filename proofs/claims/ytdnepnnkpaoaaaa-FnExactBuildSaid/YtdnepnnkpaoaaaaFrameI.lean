/- How an argument of ints is opened. -/
import Derived.Test.YtdnepnnkpaoaaaaFrame
import Derived.Test.YtdnepnnkpaoaaaaGInts
namespace Go.Proofs.Ytdnepnnkpaoaaaa
open Go.ChangeShapes Go.WideShapes Go.ChangeAt Go.RowKit

/-- An argument of ints, nil or not. -/
theorem ints_arg {H : Type} {enc : TypeId × Value → H} {W : World} {a0 : Option Addr} {len cap : Nat} {d0 : DataW H} {p : List MemPlace}
    (h0 : DataW.Trod enc Try.prog W 0 (fun _ => true) true 37 (.slice a0 len cap) d0 p) :
    ∃ xs : List Int, xs.length = len ∧ IIn W W.heap.size a0 xs ∧ len ≤ cap ∧ cap ≤ maxLen := by
  obtain ⟨fuel, hf⟩ := h0
  rcases open_ints Try.underlying37 Try.underlying3 (by kernel_rfl) hf with ⟨hcs, _⟩ | ⟨x, l, c, zs, hcs, _, hl, hm, hz, _, hcell, hwz⟩
  · simp [Value.cells] at hcs
    obtain ⟨rfl, rfl, rfl⟩ := hcs
    exact ⟨[], rfl, IIn.nil _ _ _, Nat.le_refl _, by simp [maxLen]⟩
  · simp [Value.cells] at hcs
    obtain ⟨rfl, rfl, rfl⟩ := hcs
    have hz' : zs.length = cap := by simpa using hz
    refine ⟨zs.take len, by simp; omega, fun hn => ?_, hl, hm⟩
    have hn' : 0 < zs.length := by simp at hn; omega
    have c0 := hcell 0 hn'
    obtain ⟨b, off, spot⟩ := x
    have hspot : spot = none := by simpa [Addr.add] using World.cell?_spot c0
    subst hspot
    refine ⟨b, off, rfl, by have := World.block_lt_of_cell? _ _ c0; simpa [Addr.add] using this, fun i hi => ?_⟩
    have hi' : i < len ∧ i < zs.length := by simp at hi; omega
    have := hcell i hi'.2
    rw [add_plain'] at this
    rw [this]
    simp [List.getD_eq_getElem?_getD, hi'.1]
end Go.Proofs.Ytdnepnnkpaoaaaa
