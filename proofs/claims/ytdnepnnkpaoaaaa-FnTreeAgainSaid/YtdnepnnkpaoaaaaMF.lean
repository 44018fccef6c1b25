/- What each law's frame leans on: how an argument of bytes, or of a list of ints, is opened. -/
/- How an argument of ints is opened. -/
import Derived.Test.YtdnepnnkpaoaaaaRows
import Derived.Test.YtdnepnnkpaoaaaaBase
import Derived.WalkKit
import Derived.ProofKit
import Derived.OpenShut
import Derived.ShutString
import Derived.ChangeOld
import Derived.Test.YtdnepnnkpaoaaaaGInts
namespace Go.Proofs.Ytdnepnnkpaoaaaa
open Go.ChangeShapes Go.WideShapes Go.ChangeAt Go.RowKit

theorem own : ownKnob Try.prog.godebug = none := by kernel_rfl
theorem laidOut : laidOutB Try.prog = true := by kernel_rfl

theorem byte_wf {x : Int} (h : (Lit.int .u8 x).wf = true) : 0 ≤ x ∧ x < 256 := by
  have h1 : IntKind.u8.min = 0 := rfl
  have h2 : IntKind.u8.max = 255 := rfl
  simp only [Lit.wf, Bool.and_eq_true, decide_eq_true_eq] at h
  omega

/-- An argument of bytes, nil or not. -/
theorem bytes_arg {H : Type} {enc : TypeId × Value → H} {W : World} {a0 : Option Addr} {len cap : Nat} {d0 : DataW H} {p : List MemPlace}
    (h0 : DataW.Trod enc Try.prog W 0 (fun _ => true) true 22 (.slice a0 len cap) d0 p) :
    ∃ xs : List Int, xs.length = len ∧ BIn W W.heap.size a0 xs ∧ Byt xs ∧ len ≤ cap ∧ cap ≤ maxLen := by
  obtain ⟨fuel, hf⟩ := h0
  rcases open_ints Try.underlying22 Try.underlying5 (by kernel_rfl) hf with ⟨hcs, _⟩ | ⟨x, l, c, zs, hcs, _, hl, hm, hz, _, hcell, hwz⟩
  · simp [Value.cells] at hcs
    obtain ⟨rfl, rfl, rfl⟩ := hcs
    exact ⟨[], rfl, BIn.nil _ _ _, Byt.nil, Nat.le_refl _, by simp [maxLen]⟩
  · simp [Value.cells] at hcs
    obtain ⟨rfl, rfl, rfl⟩ := hcs
    have hz' : zs.length = cap := by simpa using hz
    refine ⟨zs.take len, by simp; omega, fun hn => ?_, (fun y hy => byte_wf (hwz y (List.mem_of_mem_take hy))), hl, hm⟩
    have hn' : 0 < zs.length := by simp at hn; omega
    have c0 := hcell 0 hn'
    obtain ⟨b, off, spot⟩ := x
    have hspot : spot = none := by simpa [Addr.add] using World.cell?_spot c0
    subst hspot
    refine ⟨b, off, rfl, by have := World.block_lt_of_cell? _ _ c0; simpa [Addr.add] using this, fun i hi => ?_⟩
    have hi' : i < len ∧ i < zs.length := by simp at hi; omega
    have := hcell i hi'.2
    rw [add_plain'] at this
    rw [this]
    simp [List.getD_eq_getElem?_getD, hi'.1]
end Go.Proofs.Ytdnepnnkpaoaaaa

namespace Go.Proofs.Ytdnepnnkpaoaaaa
open Go.ChangeShapes Go.WideShapes Go.ChangeAt Go.RowKit

/-- An argument of ints, nil or not. -/
theorem ints_arg {H : Type} {enc : TypeId × Value → H} {W : World} {a0 : Option Addr} {len cap : Nat} {d0 : DataW H} {p : List MemPlace}
    (h0 : DataW.Trod enc Try.prog W 0 (fun _ => true) true 37 (.slice a0 len cap) d0 p) :
    ∃ xs : List Int, xs.length = len ∧ IIn W W.heap.size a0 xs ∧ len ≤ cap ∧ cap ≤ maxLen := by
  obtain ⟨fuel, hf⟩ := h0
  rcases open_ints Try.underlying37 Try.underlying3 (by kernel_rfl) hf with ⟨hcs, _⟩ | ⟨x, l, c, zs, hcs, _, hl, hm, hz, _, hcell, hwz⟩
  · simp [Value.cells] at hcs
    obtain ⟨rfl, rfl, rfl⟩ := hcs
    exact ⟨[], rfl, IIn.nil _ _ _, Nat.le_refl _, by simp [maxLen]⟩
  · simp [Value.cells] at hcs
    obtain ⟨rfl, rfl, rfl⟩ := hcs
    have hz' : zs.length = cap := by simpa using hz
    refine ⟨zs.take len, by simp; omega, fun hn => ?_, hl, hm⟩
    have hn' : 0 < zs.length := by simp at hn; omega
    have c0 := hcell 0 hn'
    obtain ⟨b, off, spot⟩ := x
    have hspot : spot = none := by simpa [Addr.add] using World.cell?_spot c0
    subst hspot
    refine ⟨b, off, rfl, by have := World.block_lt_of_cell? _ _ c0; simpa [Addr.add] using this, fun i hi => ?_⟩
    have hi' : i < len ∧ i < zs.length := by simp at hi; omega
    have := hcell i hi'.2
    rw [add_plain'] at this
    rw [this]
    simp [List.getD_eq_getElem?_getD, hi'.1]
end Go.Proofs.Ytdnepnnkpaoaaaa
