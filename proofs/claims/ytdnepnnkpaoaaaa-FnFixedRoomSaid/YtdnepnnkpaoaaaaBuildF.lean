/- The contract of the thin package's BuildFixed. -/
import Derived.Test.YtdnepnnkpaoaaaaOver
import Derived.Laws.CopyOwn
import Derived.Laws.MakeOwn
namespace Go.Proofs.Ytdnepnnkpaoaaaa
open Go.RowKit
set_option linter.unusedVariables false

/-- A new fixed builder. -/
theorem newFixed (a : Option Addr) (n c : Nat) (w : World) : Calls Try.prog 31 #[.slice a n c] w fun e w' => e = .returned (.pointer (some ⟨w.heap.size, 0, none⟩)) ∧ Blk w' w.heap.size 65 (bCs true (.slice a n c) 0 0 false (.pointer none)) ∧ Fr [] w w' := by
  go_enter Try.func31, Try.ntmps31
  go_wp2_with fail
  go_ret
  exact ⟨rfl, Blk.new _ _ _, (Fr.refl [] w).alloc _⟩

theorem rowB {w : World} {r n c : Nat} {xs : List Int} {cur : Array Value} (hg : w.heap[r]? = some (.cells cur 5 (0, 0))) (hn : xs.length = n) (hnc : n ≤ c) (hm : c ≤ maxLen) (hs : cur.size = c) (ht : cur.toList.take n = xs.map (Value.int .u8)) :
    OwnB w r 5 (.slice (some ⟨r, 0, none⟩) n c) xs := by
  subst hn
  exact ⟨by simp, .inr ⟨r, c, cur, rfl, Nat.le_refl _, hg, hnc, hm, by simpa using hs, by simpa using ht⟩⟩

/-- A fixed builder's row and room. -/
def Kd.room (r m : Nat) (h : m ≤ 10000) : Kd := ⟨some r, m, by omega⟩

set_option maxRecDepth 100000 in
set_option maxHeartbeats 1600000 in
theorem iBuildFixed (a : Option Addr) (n c room : Nat) (xs : List Int) (A : Option Addr) (m C : Nat) (w : World) (Q : Ending → World → Prop) (hn : xs.length = n) (hb : BIn w w.heap.size a xs) (hl : n + room ≤ 10000)
    (hQ : ∀ e w', Q e w' → ∃ a1 n1 c1 b1, e = .returned (.tuple #[.slice a1 n1 c1, .bool b1]))
    (hS : ∀ W, Bld (Kd.room w.heap.size (n + room) hl) W w.heap.size (w.heap.size + 1) xs (0 : Nat) (0 : Nat) false (.pointer none) (some w.heap.size) → Fr [] w W →
      Calls Try.prog 32 #[.pointer (some ⟨w.heap.size + 1, 0, none⟩), .slice A m C] W fun e w' => e = .returned (.tuple #[]) ∧ Calls Try.prog 33 #[.pointer (some ⟨w.heap.size + 1, 0, none⟩)] w' Q) :
    Calls Try.prog 14 #[.slice a n c, .int .i64 room, .slice A m C] w Q := by
  obtain ⟨i0, hi0, hz0, hz1, hz2⟩ := info_parts u8_info
  have hmk := run_makeSlice (P := Try.prog) w 22 5 i0 _ Try.underlying22 hi0 hz0 .i64 .i64 (n : Int) ((n : Int) + (room : Int)) (by omega) (by omega) (by rw [hz1]; omega) (by rw [hz2]; omega) (by omega)
  have hmc : madeCells (Value.cells (.int .u8 0)) (((n : Int) + (room : Int)).toNat * i0.size) = madeCells #[.int .u8 0] (n + room) := by rw [hz1, Nat.mul_one, ← Int.natCast_add, Int.toNat_natCast]; rfl
  rw [hmc] at hmk
  have hcs := size_madeCells #[.int .u8 0] (n + room)
  obtain ⟨cur, hcur⟩ : ∃ cur, cur = madeCells #[.int .u8 0] (n + room) := ⟨_, rfl⟩
  rw [← hcur] at hmk hcs
  obtain ⟨w1, hw1⟩ : ∃ w1, w1 = w.alloc (.cells cur 5) := ⟨_, rfl⟩
  rw [← hw1] at hmk
  have hg1 : w1.heap[w.heap.size]? = some (.cells cur 5 (0, 0)) := by rw [hw1]; exact heap_alloc_new w _
  have F1 : Fr [] w w1 := by rw [hw1]; exact (Fr.refl [] w).alloc _
  have hsz1 : w1.heap.size = w.heap.size + 1 := by rw [hw1]; simp
  have hb1 : BIn w1 w.heap.size a xs := F1.bin hb (by simp)
  have Hcs := Lib.hid hcs
  have Hn := Lib.hid hn
  have HQ := Lib.hid hQ
  have HS := Lib.hid hS
  have H1 := Lib.hid hg1
  have HF1 := Lib.hid F1
  have Hs1 := Lib.hid hsz1
  have Hb1 := Lib.hid hb1
  clear hcur hw1 hg1 F1 hsz1 hb1 hb hn hQ hS hcs hmc
  obtain ⟨q, hq⟩ : ∃ q, q = w.heap.size := ⟨_, rfl⟩
  rcases Nat.eq_zero_or_pos n with h0 | h0
  case' inl =>
    subst h0
    have hmk0 : (Instr.makeSlice 22 (.int .i64 0) (.int .i64 (room : Int))).run Try.prog w = .ok (.slice (some ⟨w.heap.size, 0, none⟩) 0 room) w1 := by simpa using hmk
    have HO := Lib.hid (rowB H1.out Hn.out (show 0 ≤ room by omega) (by simp only [maxLen]; omega) (by rw [Hcs.out]; omega) (by have := Hn.out; rw [List.eq_nil_of_length_eq_zero this]; rfl))
    have HFW := Lib.hid HF1.out
    have HsW := Lib.hid Hs1.out
    go_enter Try.func14, Try.ntmps14
    go_wp2_with (refine wpList_copy_nothing rfl (.tmp 17) (.tmp 18) 22 22 rfl 5 Try.underlying22 (by kernel_rfl) _ a _ _ 0 c rfl rfl rfl ?_)
  case' inr =>
    obtain ⟨b, o, rfl, hbl, hcell⟩ := Hb1.out (by rw [Hn.out]; exact h0)
    have HC := Lib.hid hcell
    clear hcell
    obtain ⟨cs, hcs⟩ : ∃ cs, cs = xs.map (Value.int .u8) := ⟨_, rfl⟩
    have HCL := Lib.hid (show cs.length = n by rw [hcs]; simpa using Hn.out)
    have Hmin := Lib.hid (show cs.length = Nat.min n n by rw [HCL.out]; simp)
    have h1c := Lib.hid (show ∀ v ∈ cs, v.oneCell' = true by rw [hcs]; intro v hv; rw [List.mem_map] at hv; obtain ⟨y, _, rfl⟩ := hv; rfl)
    have HSrc := Lib.hid (show ∀ (j : Nat) (v : Value), cs[j]? = some v → w1.cell? ((⟨b, o, none⟩ : Addr).add j) = some v by
      intro j v hj
      have hjl : j < xs.length := by
        rcases Nat.lt_or_ge j xs.length with h | h
        · exact h
        · rw [hcs, List.getElem?_eq_none (by simpa using h)] at hj; cases hj
      rw [add_plain', HC.out j hjl]
      rw [hcs, List.getElem?_map, List.getElem?_eq_getElem hjl] at hj
      rw [List.getD_eq_getElem?_getD, List.getElem?_eq_getElem hjl]
      exact hj)
    have hfit := Lib.hid (show 0 + cs.length ≤ cur.size by rw [HCL.out, Hcs.out]; omega)
    have HO := Lib.hid (rowB (setRow_heap w1 w.heap.size cur (cs ++ cur.toList.drop cs.length).toArray 5 _ H1.out) Hn.out (show n ≤ n + room by omega) (by simp only [maxLen]; omega) (by have := Hcs.out; have := HCL.out; simp; omega) (by rw [← hcs, List.take_append_of_le_length (by rw [HCL.out]; exact Nat.le_refl _), List.take_of_length_le (by rw [HCL.out]; exact Nat.le_refl _)]))
    have HFW := Lib.hid (HF1.out.setRow (r := w.heap.size) (.inr (Nat.le_refl _)) (cs ++ cur.toList.drop cs.length).toArray)
    have HsW := Lib.hid (show (w1.setRow w.heap.size (cs ++ cur.toList.drop cs.length).toArray).heap.size = w.heap.size + 1 by rw [← Hs1.out]; simp [World.setRow])
    clear hcs
    go_enter Try.func14, Try.ntmps14
    go_wp2_with (refine wpList_copy_own rfl (.tmp 17) (.tmp 18) 22 22 rfl 5 Try.underlying22 (by kernel_rfl) w.heap.size 0 n (n + room) ⟨b, o, none⟩ n c rfl rfl cur 5 H1.out cs Hmin.out HSrc.out hfit.out h1c.out ?_)
    generalize w1.setRow w.heap.size (cs ++ cur.toList.drop cs.length).toArray = w1 at *
  all_goals (
    go_wp2_with fail
    refine (newFixed _ _ _ w1).mono ?_
    rintro e w2 ⟨rfl, k2, F2⟩
    rw [HsW.out] at k2 ⊢
    have HX := Lib.hid (HS.out w2 ⟨_, k2, HO.out.keep F2, rfl, fun r' h => ⟨_, by injection h with h; subst h; rw [Hn.out], by first | rfl | exact (Nat.zero_add _).symm⟩⟩ (HFW.out.trans F2 (by simp)))
    clear k2 F2
    go_wp2_with fail
    refine HX.out.mono ?_
    rintro e w3 ⟨rfl, hB⟩
    have HB := Lib.hid hB
    clear hB
    go_wp2_with fail
    refine HB.out.mono ?_
    intro e w4 hq4
    have hq' := Lib.hid hq4
    obtain ⟨a4, n4, c4, b4, rfl⟩ := HQ.out _ _ hq4
    clear hq4
    go_wp2_with fail
    exact hq'.out)
end Go.Proofs.Ytdnepnnkpaoaaaa
