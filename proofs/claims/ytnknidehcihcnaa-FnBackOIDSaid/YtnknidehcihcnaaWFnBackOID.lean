/- The walk of laws.FnBackOID. -/
import Derived.Test.YtnknidehcihcnaaOidAdd
import Derived.Test.YtnknidehcihcnaaOidImp
import Derived.Test.YtnknidehcihcnaaOidSpec
namespace Go.Proofs.Ytnknidehcihcnaa
open Go.RowKit
set_option linter.unusedVariables false

theorem ret_bool' {b : Bool} (h : b = true) : Ending.returned (.bool b) = .returned (.bool true) := by rw [h]
theorem oidR_ok {zs : List Int} (h : oidR zs = true) : oidOk zs = true ∧ Small zs := by
  unfold oidR at h
  simp only [Bool.and_eq_true, decide_eq_true_eq, Bool.not_eq_true', Bool.and_eq_false_iff, decide_eq_false_iff_not] at h
  obtain ⟨⟨⟨⟨⟨h1, h2⟩, h3⟩, h4⟩, h5⟩, h6⟩ := h
  rw [List.all_eq_true] at h6
  have hr : ∀ i, 1 ≤ i → i < zs.length → 0 ≤ zs.getD i 0 ∧ zs.getD i 0 ≤ 2147483647 := by
    intro i hi hil
    have := h6 (zs.getD i 0) (by
      rw [List.getD_eq_getElem?_getD, List.getElem?_eq_getElem hil, Option.getD_some, List.mem_iff_getElem]
      exact ⟨i - 1, by rw [List.length_drop]; omega, by simp [show i - 1 + 1 = i by omega]⟩)
    unfold arcOk at this
    simpa using this
  have h1' := hr 1 (by omega) (by omega)
  refine ⟨?_, fun i => ?_, ?_⟩
  · unfold oidOk oidHead
    simp only [Bool.and_eq_true, Bool.not_eq_true', Bool.or_eq_false_iff, Bool.and_eq_false_iff, decide_eq_false_iff_not, List.all_eq_true, decide_eq_true_eq]
    refine ⟨⟨⟨by omega, by omega⟩, ?_⟩, ?_⟩
    · rcases h4 with h | h
      · left; omega
      · right; omega
    · intro z hz
      obtain ⟨i, hi, rfl⟩ := List.getElem_of_mem hz
      have e : zs.getD i 0 = zs[i] := by rw [List.getD_eq_getElem?_getD, List.getElem?_eq_getElem hi]; rfl
      rw [← e]
      rcases Nat.eq_zero_or_pos i with rfl | h0
      · exact h2
      · exact (hr i h0 hi).1
  · rcases Nat.eq_zero_or_pos i with rfl | h0
    · omega
    · rcases Nat.lt_or_ge i zs.length with hlt | hge
      · exact (hr i h0 hlt).2
      · rw [List.getD_eq_getElem?_getD, List.getElem?_eq_none hge]; decide
  · rcases Int.lt_or_le (zs.getD 0 0) 2 with h | h
    · rcases h4 with h' | h' <;> omega
    · rcases h5 with h' | h' <;> omega

theorem rdOid_oidB {zs : List Int} (hok : oidOk zs = true) (hs : Small zs) : rdOid (oidB zs) = some (zs.map Int.toNat) := by
  obtain ⟨z0, z1, r, hz, a0, a1, b0, b1, hr⟩ := oid_form hok
  have h1 : z1 ≤ 2147483567 := by have := hs.2; rw [hz] at this; simpa using this
  unfold oidB
  rw [hz, List.map_cons, List.map_cons]
  refine rdOid_back z0.toNat z1.toNat (r.map Int.toNat) (by omega) (by omega) (by omega) ?_
  intro n hn
  rw [List.mem_map] at hn
  obtain ⟨z, hz', rfl⟩ := hn
  obtain ⟨i, hi, rfl⟩ := List.getElem_of_mem hz'
  have := hs.1 (i + 2)
  rw [hz] at this
  simp only [List.getD_cons_succ] at this
  rw [List.getD_eq_getElem?_getD, List.getElem?_eq_getElem hi] at this
  simp only [Option.getD_some] at this
  omega
theorem map_back {zs : List Int} (hok : oidOk zs = true) : (zs.map Int.toNat).map Int.ofNat = zs := by
  obtain ⟨z0, z1, r, hz, a0, a1, b0, b1, hr⟩ := oid_form hok
  have h : ∀ z ∈ zs, 0 ≤ z := by
    rw [hz]
    intro z hz'
    simp only [List.mem_cons] at hz'
    rcases hz' with rfl | rfl | h
    · exact a0
    · exact b0
    · exact hr z h
  rw [List.map_map]
  conv => rhs; rw [← List.map_id zs]
  refine List.map_congr_left fun z hz' => ?_
  have := h z hz'
  simp only [Function.comp, id, Int.ofNat_eq_natCast]
  omega
theorem oidB_byt (zs : List Int) : Byt (oidB zs) := by
  have henc : ∀ n, Byt (enc n) := fun n => b128_byt _ _
  unfold oidB oidC
  split
  · refine (henc _).append ?_
    intro x hx
    rw [List.mem_flatMap] at hx
    obtain ⟨n, _, h⟩ := hx
    exact henc n x h
  · exact Byt.nil

set_option maxRecDepth 100000 in
set_option maxHeartbeats 1600000 in
theorem main_FnBackOID (w : World) (a : Option Addr) (n c : Nat) (zs : List Int) (hn : zs.length = n) (hi : IIn w w.heap.size a zs) (b : Option Addr) (m d : Nat) (xs : List Int) (hm : xs.length = m) (hb : BIn w w.heap.size b xs) (hx : Byt xs) (hl : n ≤ 1048576) (hl2 : m ≤ 1048576) (hR : oidR zs = true) :
    Calls Try.prog 10 #[.slice a n c, .slice b m d] w fun e w' => e = .returned (.bool true) ∧ Below w.heap.size w w' := by
  obtain ⟨hok, hs⟩ := oidR_ok hR
  have OR := Lib.hid (oidRight_any a n c zs w hn hi (by omega))
  rw [hR] at OR
  have K := Lib.hid (iAddOID a n c zs w hn hi hl hok hs)
  have hL := oidB_len zs hs hok
  have hW := derWrap_len 6 (oidB zs)
  have F1 := Lib.hid (show firstOf (derWrap 6 (oidB zs) ++ xs) 6 = some (oidB zs, xs) by rw [firstOf_derWrap (t := 6) (by decide) 6 _ xs (by omega) (oidB_byt zs) hx, if_pos rfl])
  have HbX := Lib.hid (show Byt (derWrap 6 (oidB zs)) from derWrap_byt (by decide) (by decide) (oidB_byt zs))
  have Ls := Lib.hid (show (derWrap 6 (oidB zs)).length ≤ 5300000 ∧ (oidB zs).length ≤ 5300000 by omega)
  have RD := Lib.hid (rdOid_oidB hok hs)
  have MB := Lib.hid (map_back hok)
  clear hL hW hR hs hok
  generalize derWrap 6 (oidB zs) = X at *
  obtain ⟨q, hq⟩ : ∃ q, q = X.length := ⟨_, rfl⟩
  have Hq := Lib.hid hq.symm
  have Hn := Lib.hid hn
  have HI := Lib.hid hi
  have Hm := Lib.hid hm
  have HB := Lib.hid hb
  have Hx := Lib.hid hx
  have hqm := Lib.hid (show (X ++ xs).length = q + m by rw [List.length_append, Hq.out, Hm.out])
  have hql := Lib.hid (show q + m ≤ 4194304000 by have := Ls.out; have := Hq.out; omega)
  clear hn hi hm hb hx hq
  go_enter Try.func10, Try.ntmps10
  go_wp2_with fail
  refine OR.out.mono ?_
  rintro e w' ⟨rfl, rfl⟩
  go_wp2_with fail
  refine K.out.mono ?_
  rintro e w1 ⟨a1, c1, rfl, p1, p2, p3, p4⟩
  rw [Hq.out] at p1 ⊢
  go_wp2_with fail
  refine (behind_any a1 b q c1 m d X xs w1 Hq.out Hm.out p3 ((HB.out.below p4).lt) hql.out).mono ?_
  rintro e w2 ⟨a2, c2, rfl, q1, q2, q3, q4, _⟩
  have p24 := p4.trans (q4.mono p4.size)
  have R := Lib.hid (iReadOID_yes a2 (q + m) c2 (X ++ xs) (oidB zs) xs (zs.map Int.toNat) w2 hqm.out q3 (HbX.out.append Hx.out) hql.out F1.out (by have := Ls.out; omega) (by rw [List.length_map, Hn.out]; omega) RD.out)
  go_wp2_with fail
  refine R.out.mono ?_
  rintro e w3 ⟨a3, c3, b3, d3, rfl, r1, r2, r3⟩
  rw [MB.out] at r1 ⊢
  rw [Hn.out, Hm.out]
  have p34 := p24.trans (r3.mono p24.size)
  go_wp2_with fail
  have HR2 := Lib.hid r2
  refine (sameInts_yes a3 a n c3 c zs w3 Hn.out r1 ((HI.out.below p34).lt) (by omega)).mono ?_
  rintro e w4 ⟨rfl, k4, rfl⟩
  go_wp2_with fail
  refine (same_any b3 b m d3 m d xs xs (w3.drewN k4) w3.heap.size Hm.out Hm.out (show BIn (w3.drewN k4) w3.heap.size b3 xs from HR2.out) (show BIn (w3.drewN k4) w3.heap.size b xs from (HB.out.below p34).lt) Hx.out Hx.out).mono ?_
  rintro e w5 ⟨rfl, rfl⟩
  go_wp2
  go_ret
  exact ⟨ret_bool' (by simp), ((Fr.of_below p34 []).drewN _).below (by simp) (Nat.le_refl _)⟩

set_option maxRecDepth 100000 in
set_option maxHeartbeats 1600000 in
theorem walk_FnBackOID (w : World) (a : Option Addr) (n c : Nat) (zs : List Int) (hn : zs.length = n) (hi : IIn w w.heap.size a zs) (hc : n ≤ c) (hcm : c ≤ maxLen) (b : Option Addr) (m d : Nat) (xs : List Int) (hm : xs.length = m) (hb : BIn w w.heap.size b xs) (hx : Byt xs) (hd : m ≤ d) (hdm : d ≤ maxLen) :
    Calls Try.prog 10 #[.slice a n c, .slice b m d] w fun e w' => e = .returned (.bool true) ∧ Below w.heap.size w w' := by
  by_cases hz : n ≤ 2147483647
  · by_cases hz2 : m ≤ 2147483647
    · by_cases hl : n ≤ 1048576
      · by_cases hl2 : m ≤ 1048576
        · cases hR : oidR zs
          · have OR := Lib.hid (oidRight_any a n c zs w hn hi (by omega))
            rw [hR] at OR
            clear hn hi hm hb hx hR
            go_enter Try.func10, Try.ntmps10
            go_wp2_with fail
            refine OR.out.mono ?_
            rintro e w' ⟨rfl, rfl⟩
            go_wp2
            go_ret
            exact ⟨rfl, Below.refl _ _⟩
          · exact main_FnBackOID w a n c zs hn hi b m d xs hm hb hx hl hl2 hR
        · clear hn hi hm hb hx
          go_enter Try.func10, Try.ntmps10
          go_wp2
          go_ret
          exact ⟨rfl, Below.refl _ _⟩
      · clear hn hi hm hb hx
        go_enter Try.func10, Try.ntmps10
        go_wp2
        go_ret
        exact ⟨rfl, Below.refl _ _⟩
    · clear hn hi hm hb hx
      go_enter Try.func10, Try.ntmps10
      go_wp2
      go_ret
      exact ⟨rfl, Below.refl _ _⟩
  · clear hn hi hm hb hx
    go_enter Try.func10, Try.ntmps10
    go_wp2
    go_ret
    exact ⟨rfl, Below.refl _ _⟩
end Go.Proofs.Ytnknidehcihcnaa
