/- The contracts of the reference's base128 and OIDContents. -/
import Derived.Test.YtdnepnnkpaoaaaaSB
namespace Go.Proofs.Ytdnepnnkpaoaaaa
open Go.RowKit
set_option linter.unusedVariables false

theorem grp_of1 {v k : Nat} (hv : v ≤ 2147483647) (hk : 1 ≤ k) (hz : v / 128 ^ k = 0) (hp : k = 1 ∨ 0 < v / 128 ^ (k - 1)) : k = grp v := by
  by_cases h0 : v = 0
  · subst h0
    rcases hp with rfl | h
    · rfl
    · simp at h
  · exact grp_of hv (by omega) hz (by
      rcases hp with rfl | h
      · right; simp; omega
      · exact .inr h)
set_option maxRecDepth 100000 in
set_option maxHeartbeats 1600000 in
theorem base128_any (v : Nat) (w : World) (hv : v ≤ 2147483647) :
    Calls Try.prog 111 #[.int .i64 v] w (OwnPost w (enc v)) := by
  obtain ⟨i0, hi0, hz0, hz1, hz2⟩ := info_parts u8_info
  have HV := Lib.hid hv
  obtain ⟨X, hX⟩ : ∃ X, X = enc v := ⟨_, rfl⟩
  rw [← hX]
  have HX := Lib.hid hX
  clear hX
  go_enter Try.func111, Try.ntmps111
  go_wp2_with fail
  go_loopw [0, 3] (fun n o wr => ∃ (k : Nat), 1 ≤ k ∧ k ≤ 5 ∧ n = .int .i64 ((v / 128 ^ k : Nat) : Int) ∧ Hid (k = 1 ∨ 0 < v / 128 ^ (k - 1)) ∧ OwnB wr w.heap.size 5 o (b128 k v) ∧ Below w.heap.size w wr) (fun n _ _ => (intOf n).toNat)
  case atStart =>
    refine ⟨1, by omega, by omega, by simp, Lib.hid (.inl rfl), ?_, (Below.refl _ _).alloc (Nat.le_refl _) _⟩
    have : b128 1 v = [((v % 128 : Nat) : Int)] := by simp [b128]
    rw [this]
    exact OwnB.lit w w.heap.size _ _ 1 rfl rfl (Nat.le_refl _) (by omega)
  case round =>
    obtain ⟨k, hk1, hk5, rfl, hpos, hown, hbel⟩ := hrel
    obtain ⟨A, c, rfl, hc1, hc2, _⟩ := hown.form
    rw [b128_len] at hown hc1 ⊢
    have Hown := Lib.hid hown
    have Hbel := Lib.hid hbel
    obtain ⟨q, hq⟩ : ∃ q, q = v / 128 ^ k := ⟨_, rfl⟩
    have hq31 : q ≤ 2147483647 := by rw [hq]; exact Nat.le_trans (Nat.div_le_self _ _) hv
    have HE := Lib.hid (fun h => @grp_of1 v k hv hk1 h hpos.out)
    have HK : Hid (0 < q → k ≤ 4) := Lib.hid (by
      intro h
      have : k = 5 ∨ k < 5 := by omega
      rcases this with rfl | h'
      · simp only [Nat.reducePow] at hq; omega
      · omega)
    have HN := Lib.hid (show q / 128 = v / 128 ^ (k + 1) by rw [hq, Nat.pow_succ, Nat.div_div_eq_div_mul])
    have HS := Lib.hid (show b128 (k + 1) v = [(((q % 128 + 128 : Nat)) : Int)] ++ b128 k v by rw [b128, if_neg (by omega), ← hq]; rfl)
    have Hbl := Lib.hid (b128_len k v)
    have Hq := Lib.hid hq
    rw [← hq]
    clear hq hown hbel
    by_cases hgt : 0 < q
    · obtain ⟨Y, hY⟩ : ∃ Y : Nat, Y = q % 128 + 128 := ⟨_, rfl⟩
      have L := Lib.hid (show OwnB (wr.alloc (.cells #[.int .u8 Y] 5)) w.heap.size 5 (.slice (some ⟨wr.heap.size, 0, none⟩) 1 1) [(Y : Int)] from OwnB.lit wr w.heap.size [(Y : Int)] #[.int .u8 Y] 1 rfl rfl Hbel.out.size (by omega))
      have S1 := Lib.hid (show BIn (wr.alloc (.cells #[.int .u8 Y] 5)) wr.heap.size A (b128 k v) from ((Fr.refl [] wr).alloc _).bin (Hown.out.bin Hbl.out) (by simp))
      have C1 := Lib.hid (show [(Y : Int)].length + (b128 k v).length ≤ 70368744177664 by rw [Hbl.out]; simp; omega)
      have hYi : (128 : Int) + (q : Int) % 128 = (Y : Int) := by omega
      have hY2 : Y < 256 := by omega
      rw [← hY] at HS
      have HY := Lib.hid hYi
      have hk4 := HK.out hgt
      rw [← hYi] at L S1 C1
      clear hY hYi
      go_wp2_with (at_builtin; go_must (refine wpList_append_bytes _ rfl (.tmp 18) (.tmp 19) _ rfl w.heap.size 5 i0 _ Try.underlying22 hi0 hz0 hz1 hz2 rfl (.slice (some ⟨wr.heap.size, 0, none⟩) 1 1) _ rfl L.out _ A k c _ Hbl.out rfl S1.out C1.out (by have := Hbel.out.size; simp; omega) ?_; intro A' c' w1 hown hg1 hat))
      go_roundw
      case rel =>
        rw [HY.out] at hown
        rw [← HS.out] at hown
        refine ⟨k + 1, by omega, by omega, ?_, Lib.hid (.inr (by simp only [Nat.add_sub_cancel]; rw [← Hq.out]; exact hgt)), ?_, ?_⟩
        · rw [← HN.out]; simp
        · exact hown
        · exact (Hbel.out.alloc Hbel.out.size _).grown hg1 (by have := Hbel.out.size; simp; omega) (fun k hk => by simp [Value.ownBlock] at hk; have := Hbel.out.size; omega)
      case measure => simp [intOf]; omega
    · obtain rfl : q = 0 := by omega
      have hkE := Lib.hid (HE.out Hq.out.symm)
      clear hgt
      go_wp2_with fail
      go_ret
      refine ownPost ?_ Hbel.out
      rw [HX.out, enc, ← hkE.out]
      exact Hown.out

set_option maxRecDepth 100000 in
set_option maxHeartbeats 1600000 in
theorem oidContents_any (zs : List Int) (a : Option Addr) (n c : Nat) (w : World) (hn : zs.length = n) (hy : IIn w w.heap.size a zs) (hn32 : n ≤ 1000000) (hok : oidOk zs = true) (hs : Small zs) :
    Calls Try.prog 98 #[.slice a n c] w (OwnPost w (oidB zs)) := by
  obtain ⟨i9, hi9, hz9, hz91, hz92⟩ := info_parts u8_info
  obtain ⟨z0, z1, r, hz, a0, a1, b0, b1, hr⟩ := oid_form hok
  have hlen := oidB_len' zs hs hok
  have hB := oidB_eq hz
  obtain ⟨n0, rfl⟩ := Int.eq_ofNat_of_zero_le a0
  obtain ⟨n1, rfl⟩ := Int.eq_ofNat_of_zero_le b0
  have s1 : (n1 : Int) ≤ 2147483567 := by have := hs.2; rw [hz] at this; simpa using this
  simp only [Int.toNat_natCast] at hB
  obtain ⟨b, o, ha, hbB, hcell⟩ := hy (by rw [hz]; simp)
  subst ha
  have y0 := hcell 0 (by rw [hz]; simp)
  have y1 := hcell 1 (by rw [hz]; simp)
  rw [hz, Nat.add_zero] at y0
  rw [hz] at y1
  simp only [List.getD_cons_zero, List.getD_cons_succ] at y0 y1
  have hzl : r.length + 2 = n := by rw [← hn, hz]; simp
  have hR : ∀ i, i < r.length → w.cell? ⟨b, o + (2 + i), none⟩ = some (.int .i64 (r.getD i 0)) := by
    intro i hi
    have := hcell (i + 2) (by rw [hz]; simp; omega)
    rw [hz] at this
    simp only [List.getD_cons_succ] at this
    rw [show o + (2 + i) = o + (i + 2) by omega]
    exact this
  have hRs : ∀ i, 0 ≤ r.getD i 0 ∧ r.getD i 0 ≤ 2147483647 := by
    intro i
    have h9 := hs.1 (i + 2)
    rw [hz] at h9
    simp only [List.getD_cons_succ] at h9
    refine ⟨?_, h9⟩
    rw [List.getD_eq_getElem?_getD]
    cases h8 : r[i]? with
    | none => simp
    | some z => exact hr z (List.mem_of_getElem? h8)
  have HR := Lib.hid hR
  have HRs := Lib.hid hRs
  have A := Lib.hid (show ∀ w1, Calls Try.prog 111 #[.int .i64 ((n0 : Int) * 40 + (n1 : Int))] w1 (OwnPost w1 (enc (n0 * 40 + n1))) by
    intro w1
    have := base128_any (n0 * 40 + n1) w1 (by omega)
    rw [show ((n0 * 40 + n1 : Nat) : Int) = (n0 : Int) * 40 + (n1 : Int) by omega] at this
    exact this)
  have i1 : (1 : Int) < (n : Int) := by omega
  have i0 : (0 : Int) < (n : Int) := by omega
  have i0' : 0 < n := by omega
  have i1' : 1 < n := by omega
  have HB := Lib.hid hB
  obtain ⟨m, hm⟩ : ∃ m, m = r.length := ⟨_, rfl⟩
  have Hm := Lib.hid hm
  have hnm : n = m + 2 := by omega
  have hmn : m ≤ 1000000 := by omega
  have HL := Lib.hid (show (oidB zs).length ≤ 5 * (m + 2) by rw [hn, hnm] at hlen; exact hlen)
  have w1 : IntKind.i64.wrap ((n0 : Int) * 40) = (n0 : Int) * 40 := IntWalk.i64_in _ (by omega)
  have w2 : IntKind.i64.wrap ((n0 : Int) * 40 + (n1 : Int)) = (n0 : Int) * 40 + (n1 : Int) := IntWalk.i64_in _ (by omega)
  have HbB := Lib.hid (show b < w.heap.size from hbB)
  obtain ⟨X, hX⟩ : ∃ X, X = oidB zs := ⟨_, rfl⟩
  rw [← hX] at HB HL ⊢
  clear hX hn hy hok hs hz hcell hzl hR hRs hB hm hr b1 a1 s1 hbB a0 b0 hlen hn32
  have Hnm := Lib.hid hnm
  clear hnm
  go_enter Try.func98, Try.ntmps98
  go_wp2_with fail
  refine region_tail 8 (by kernel_rfl) (by kernel_rfl) ?_
  simp only [List.take_succ_cons, List.take_zero, List.drop_succ_cons, List.drop_zero]
  repeat still_step
  refine wpStill_nil ?_
  go_wp2_with fail
  refine (A.out _).mono ?_
  rintro e w3 ⟨a3, c3, rfl, h1, h2, h3, h4, h5⟩
  obtain ⟨E0, hE0⟩ : ∃ E0, E0 = enc (n0 * 40 + n1) := ⟨_, rfl⟩
  rw [← hE0] at h1 h5 HB ⊢
  have H4 := Lib.hid (show Below w.heap.size w w3 from ((Below.refl w.heap.size w).drew).trans h4)
  have H5 := Lib.hid (show OwnB w3 w.heap.size 5 (.slice a3 E0.length c3) E0 from h5)
  clear h1 h2 h3 h4 h5 y0 y1 w1 w2 A hE0
  obtain ⟨N0, hN0⟩ : ∃ N0, N0 = E0.length := ⟨_, rfl⟩
  rw [← hN0] at H5 ⊢
  have HN0 := Lib.hid hN0
  clear hN0
  go_wp2_with fail
  go_loopw [3, 4] (fun o i wr => ∃ (k : Nat), k ≤ m ∧ i = .int .i64 ((k : Int) + 2) ∧ OwnB wr w.heap.size 5 o (E0 ++ (r.take k).flatMap (fun z => enc z.toNat)) ∧ Below w.heap.size w wr) (fun _ i _ => m + 2 - (intOf i).toNat)
  case atStart => exact ⟨0, Nat.zero_le _, rfl, by rw [List.take_zero, List.flatMap_nil, List.append_nil]; exact H5.out, H4.out⟩
  case round =>
    obtain ⟨k, hk, rfl, hown, hbel⟩ := hrel
    obtain ⟨A', c', rfl, hc1, hc2, _⟩ := hown.form
    have Hown := Lib.hid hown
    have Hbel := Lib.hid hbel
    by_cases hlt : k < m
    · have hk' : k < r.length := by have := Hm.out; omega
      have c3 : wr.cell? ⟨b, o + (2 + k), none⟩ = some (.int .i64 (r.getD k 0)) := (World.cell?_of_block (w := w) (hbel.block b HbB.out)).trans (HR.out k hk')
      rw [show o + (2 + k) = o + (k + 2) by omega] at c3
      obtain ⟨z, hz⟩ : ∃ z, z = r.getD k 0 := ⟨_, rfl⟩
      have hzb := HRs.out k
      rw [← hz] at c3 hzb
      obtain ⟨nz, rfl⟩ := Int.eq_ofNat_of_zero_le hzb.1
      have hzn := Lib.hid (show (r.getD k 0).toNat = nz by rw [← hz]; rfl)
      have A2 := Lib.hid (base128_any nz wr (by have := hzb.2; omega))
      have h1 := flat_le r k hk'
      have h2 := HL.out
      rw [hzn.out] at h1
      rw [HB.out] at h2
      simp only [List.length_append] at h2
      obtain ⟨Y, hY⟩ : ∃ Y, Y = E0 ++ (r.take k).flatMap (fun z => enc z.toNat) := ⟨_, rfl⟩
      have HYL := Lib.hid (show Y.length + (enc nz).length ≤ 70368744177664 by rw [hY, List.length_append]; omega)
      rw [← hY] at hown Hown ⊢
      have HY := Lib.hid hY
      obtain ⟨NY, hNY⟩ : ∃ NY, NY = Y.length := ⟨_, rfl⟩
      rw [← hNY] at Hown ⊢
      have HNY := Lib.hid hNY
      obtain ⟨Z, hZ⟩ : ∃ Z, Z = enc nz := ⟨_, rfl⟩
      rw [← hZ] at A2 HYL
      have HZ := Lib.hid hZ
      have hkm : (k : Int) + 2 < (n : Int) := by have := Hnm.out; omega
      have htn : ((k : Int) + 2).toNat = k + 2 := by omega
      clear hown hbel h1 h2 hY hNY hZ hz hzb hk' hc1
      go_wp2_with fail
      refine A2.out.mono ?_
      rintro e w5 ⟨a5, c5, rfl, q1, q2, q3, q4, q5⟩
      have Q3 := Lib.hid q3
      have O5 := Lib.hid (show OwnB w5 w.heap.size 5 (.slice A' NY c') Y from Hown.out.fr (Fr.of_below q4 []) (by simp))
      have B5 := Lib.hid (Hbel.out.trans (q4.mono Hbel.out.size))
      have S5 := Lib.hid B5.out.size
      clear q1 q2 q3 q4 q5
      rw [HNY.out] at O5
      go_wp2_with (at_builtin; go_must (refine wpList_append_bytes _ rfl (.tmp 20) (.tmp 25) _ rfl w.heap.size 5 i9 _ Try.underlying22 hi9 hz9 hz91 hz92 rfl (.slice A' NY c') Y rfl (by rw [HNY.out]; exact O5.out) _ a5 Z.length c5 Z rfl rfl Q3.out HYL.out S5.out ?_; intro A6 c6 w6 hown6 hg6 hat))
      go_roundw
      case rel =>
        refine ⟨k + 1, by omega, by go_num, ?_, ?_⟩
        · have e1 := flat_take r k (by have := Hm.out; omega)
          rw [hzn.out, ← HZ.out] at e1
          rw [e1, ← List.append_assoc, ← HY.out]
          exact hown6
        · exact B5.out.grown hg6 S5.out (fun j hj => by have h5 := O5.out.lt j; rw [← HNY.out] at h5; exact (h5 hj).1)
      case measure => simp [intOf]; omega
    · obtain rfl : k = m := by omega
      have hkm : decide ((k : Int) + 2 < (n : Int)) = false := by rw [decide_eq_false_iff_not]; have := Hnm.out; omega
      clear hown hbel
      go_wp2_with fail
      go_ret
      refine ownPost ?_ Hbel.out
      rw [HB.out]
      have := Hown.out
      have et : r.take k = r := List.take_of_length_le (by rw [Hm.out]; exact Nat.le_refl _)
      rw [et] at this ⊢
      exact this
end Go.Proofs.Ytdnepnnkpaoaaaa
