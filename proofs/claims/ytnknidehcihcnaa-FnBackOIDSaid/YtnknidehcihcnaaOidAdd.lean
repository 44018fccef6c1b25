/- The contract of impl.AddOID. -/
import Derived.Test.YtnknidehcihcnaaGGood
import Derived.Test.YtnknidehcihcnaaGIntA
namespace Go.Proofs.Ytnknidehcihcnaa
open Go.RowKit
set_option linter.unusedVariables false

theorem int_info : (Try.prog.info? 3).map (fun i => (i.zero, i.size, i.bytes)) = some (some (.int .i64 0), 1, 8) := by kernel_rfl

theorem oidB_len (zs : List Int) (h : Small zs) (hok : oidOk zs = true) : (oidB zs).length ≤ 5 * zs.length := by
  obtain ⟨z0, z1, r, hz, a0, a1, b0, b1, hr⟩ := oid_form hok
  rw [oidB_eq hz, List.length_append]
  have h1 : z1 ≤ 2147483567 := by have := h.2; rw [hz] at this; simpa using this
  have e0 := (enc_len (n := z0.toNat * 40 + z1.toNat) (by omega)).2
  have hr2 : ∀ z ∈ r, z ≤ 2147483647 := by
    intro z hz'
    obtain ⟨i, hi, rfl⟩ := List.getElem_of_mem hz'
    have := h.1 (i + 2)
    rw [hz] at this
    simp only [List.getD_cons_succ] at this
    rw [List.getD_eq_getElem?_getD, List.getElem?_eq_getElem hi] at this
    exact this
  have : (r.flatMap (fun z => enc z.toNat)).length ≤ 5 * r.length := by
    clear hz hr
    induction r with
    | nil => simp
    | cons z r ih =>
      have h2 := hr2 z (by simp)
      have := (enc_len (n := z.toNat) (by omega)).2
      have := ih (fun z hz => hr2 z (by simp [hz]))
      rw [List.flatMap_cons, List.length_append, List.length_cons]
      omega
  rw [hz]
  simp only [List.length_cons]
  omega

set_option maxRecDepth 100000 in
set_option maxHeartbeats 1600000 in
theorem iAddOID (a : Option Addr) (n c : Nat) (zs : List Int) (w : World) (hn : zs.length = n) (hy : IIn w w.heap.size a zs) (hl : n ≤ 1048576) (hok : oidOk zs = true) (hs : Small zs) :
    Calls Try.prog 24 #[.slice a n c] w (GotPost w (derWrap 6 (oidB zs))) := by
  obtain ⟨i0, hi0, hz0, hz1, hz2⟩ := info_parts int_info
  have Hn := Lib.hid hn
  have Hy := Lib.hid hy
  have Hok := Lib.hid hok
  have Hs := Lib.hid hs
  have HL := Lib.hid (oidB_len zs hs hok)
  have hbn := Lib.hid (derWrap_len 6 (oidB zs))
  clear hn hy hok hs
  go_enter Try.func24, Try.ntmps24
  go_wp2_with (at_builtin; go_must (refine wpList_append_ints _ rfl (.const (.slice none 0 0)) (.tmp 5) _ rfl (w.heap.size + 1) 3 i0 _ Try.underlying37 hi0 hz0 hz1 hz2 rfl (.slice none 0 0) [] rfl (OwnI.nil _ _ _) w.heap.size a n c zs Hn.out rfl (((Fr.refl [] w).alloc _).iin Hy.out (by simp)) (show ([] : List Int).length + zs.length ≤ 17592186044416 by have := Hn.out; rw [List.length_nil]; omega) (Nat.le_of_eq (by simp)) ?_; intro A' c' w1 hown hg1 hat; simp only [List.length_nil, Nat.zero_add, List.nil_append] at hown hat ⊢))
  have F1 : Fr [] w w1 := ((Fr.refl [] w).alloc _).grown hg1 (fun k hk => by cases hk)
  have B1 : Bld Kd.free w1 w.heap.size w.heap.size [] (0 : Nat) (0 : Nat) false (.pointer none) none := (Bld.new w).keep ((Fr.refl [] _).grown hg1 (fun k hk => by cases hk))
  have hI := hown.iin Hn.out
  obtain ⟨a9, c9, h9, hc9, _, _, hb9⟩ := hown.form
  injection h9 with h10 h11 h12
  subst h10 h12
  rw [Hn.out] at hc9
  have M := Lib.hid (gOid Kd.free w.heap.size w.heap.size 0 0 false [] (.pointer none) none false 0 0 w1 B1 (.inl ⟨rfl, rfl⟩) (by simp) F1.size A' n c' zs Hn.out hc9 hI (fun b hb => by
    obtain ⟨_, _, h1, h2⟩ := hb9 b hb
    refine ⟨h2, ?_⟩
    simp [fS, icB]
    omega) (by omega) Hok.out Hs.out (by have := HL.out; have := Hn.out; omega) (by
    have h1 := hbn.out
    have h2 := HL.out
    have h3 := Hn.out
    have h4 : Kd.free.lim = 4194303000 := rfl
    rw [h4, List.length_nil]
    omega))
  have HF1 := Lib.hid F1
  clear F1 B1 hI hb9 hc9 hown hg1 hat
  refine M.out.mono ?_
  rintro e w2 ⟨f2, rfl, ic, rb, b2, _⟩
  have HB2 := Lib.hid b2
  have HF2 := Lib.hid (show Fr [w.heap.size] w w2 from (HF1.out.mono (by simp)).trans (f2.mono (S' := [w.heap.size]) (by intro i hi; simpa [fS, icB] using hi)) (fun i hi => .inl hi))
  clear b2 f2
  go_wp2_with fail
  refine (bytesOf_ok Kd.free _ _ _ _ _ _ _ _ HB2.out (by have h1 := hbn.out; have h2 := HL.out; have h3 := Hn.out; rw [List.nil_append]; omega)).mono ?_
  rintro e w4 ⟨a4, c4, rfl, q1, q2, q3, q4⟩
  go_wp2
  go_ret2
  exact ⟨a4, c4, rfl, q1, q2, q3, (HF2.out.below (B := w.heap.size) (by simp) (Nat.le_refl _)).trans (q4.mono HF2.out.size)⟩
end Go.Proofs.Ytnknidehcihcnaa
