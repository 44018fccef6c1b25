/- The contract of the continuation of AddASN1ObjectIdentifier. -/
import Derived.Test.YtdnepnnkpaoaaaaGInts
import Derived.Test.YtdnepnnkpaoaaaaGB128Z
namespace Go.Proofs.Ytdnepnnkpaoaaaa
open Go.RowKit
set_option linter.unusedVariables false

theorem sl_from_oid (a : Option Addr) (n c : Nat) (k : Int) (m : Nat) (hk : k = m) (hn : m ≤ n) (w : World) :
    (Instr.sliceAt 73 (.slice a n c) (some (.int .i64 k)) none none).run Try.prog w = .ok (.slice (cutA a c m) (n - m) (c - m)) w := by
  subst hk
  have ht : Try.prog.underlying 73 = some (.slice (Try.prog.elem 73)) := by kernel_rfl
  have hs : ∀ w, (sizeOf (Try.prog.elem 73)).run Try.prog w = .ok 1 w := fun w => by kernel_rfl
  rw [run_sliceAt_slice w _ _ _ _ _ ht, run_slice_l w _ a n c ht _ _ (by omega) (by omega), hs]
  simp [Result.andThen, sliced, cutA]

/-- Arcs of which none is beyond 2^31 - 1, and no first pair. -/
def Small (zs : List Int) : Prop := (∀ i, zs.getD i 0 ≤ 2147483647) ∧ zs.getD 1 0 ≤ 2147483567
/-- The contents of arcs. -/
def oidB (zs : List Int) : List Int := oidC (zs.map Int.toNat)
theorem oidB_eq {zs : List Int} {z0 z1 : Int} {r : List Int} (h : zs = z0 :: z1 :: r) : oidB zs = enc (z0.toNat * 40 + z1.toNat) ++ r.flatMap (fun z => enc z.toNat) := by
  subst h
  simp [oidB, oidC, List.flatMap_map]
theorem oid_form {zs : List Int} (h : oidOk zs = true) : ∃ z0 z1 r, zs = z0 :: z1 :: r ∧ 0 ≤ z0 ∧ z0 ≤ 2 ∧ 0 ≤ z1 ∧ (z0 < 2 → z1 < 40) ∧ ∀ z ∈ r, 0 ≤ z := by
  unfold oidOk oidHead at h
  match zs, h with
  | [], h => simp at h
  | [_], h => simp at h
  | z0 :: z1 :: r, h =>
    simp only [List.length_cons, List.getD_cons_zero, List.getD_cons_succ, Bool.and_eq_true, Bool.not_eq_true', Bool.or_eq_false_iff, Bool.and_eq_false_iff, decide_eq_false_iff_not, List.all_cons, decide_eq_true_eq, List.all_eq_true] at h
    obtain ⟨⟨⟨_, h1⟩, h2⟩, h3, h4, h5⟩ := h
    exact ⟨z0, z1, r, rfl, h3, by omega, h4, by omega, h5⟩
theorem flat_take (r : List Int) (k : Nat) (hk : k < r.length) : (r.take (k + 1)).flatMap (fun z => enc z.toNat) = (r.take k).flatMap (fun z => enc z.toNat) ++ enc (r.getD k 0).toNat := by
  rw [List.take_succ_eq_append_getElem hk, List.flatMap_append, List.getD_eq_getElem?_getD, List.getElem?_eq_getElem hk]
  simp
theorem flat_le (r : List Int) (k : Nat) (hk : k < r.length) : ((r.take k).flatMap (fun z => enc z.toNat)).length + (enc (r.getD k 0).toNat).length ≤ (r.flatMap (fun z => enc z.toNat)).length := by
  have h1 := flat_take r k hk
  have h2 : r.flatMap (fun z => enc z.toNat) = (r.take (k + 1)).flatMap (fun z => enc z.toNat) ++ (r.drop (k + 1)).flatMap (fun z => enc z.toNat) := by
    rw [← List.flatMap_append, List.take_append_drop]
  rw [h2, h1]
  simp only [List.length_append]
  omega

/-- Two steps that add. -/
theorem AddPost.after {K : Kd} {base g : Nat} {xs ys : List Int} {off pl : Int} {pa : Bool} {ic : Value} {rb rb1 : Option Nat} {w w1 w2 : World} {e : Ending}
    (hf : Fr (g :: rb.toList) w w1) (hr : rb1 = rb ∨ ∃ k, rb1 = some k ∧ w.heap.size ≤ k) (h : AddPost K base g ys off pl pa ic rb1 w1 e w2) : AddPost K base g ys off pl pa ic rb w e w2 := by
  obtain ⟨he, rb2, h1, h2, h3⟩ := h
  refine ⟨he, rb2, h1, hf.trans h2 (fun i hi => ?_), ?_⟩
  · rw [List.mem_cons] at hi
    rcases hi with rfl | hi
    · exact .inl (by simp)
    · rcases hr with h | ⟨k, h, hk⟩
      · rw [h] at hi; exact .inl (List.mem_cons_of_mem _ hi)
      · rw [h] at hi; simp at hi; subst hi; exact .inr hk
  · rcases h3 with h | ⟨k, h, hk⟩
    · rw [h]; exact hr
    · exact .inr ⟨k, h, Nat.le_trans hf.size hk⟩

set_option maxRecDepth 100000 in
set_option maxHeartbeats 1600000 in
theorem clos_oid (K : Kd) (base gc p : Nat) (xs zs : List Int) (off pl : Int) (pa : Bool) (ic : Value) (rb : Option Nat) (a : Option Addr) (n c : Nat) (w : World)
    (hg : Bld K w base gc xs off pl pa ic rb) (hp : Blk w p 73 #[.slice a n c]) (hpc : p ≠ gc) (hpr : ∀ k, rb = some k → p ≠ k) (hn : zs.length = n) (hc : n ≤ c) (hy : IIn w w.heap.size a zs) (hya : ∀ b, a = some b → b.block ≠ gc ∧ ∀ k, rb = some k → b.block ≠ k)
    (hn32 : n ≤ 4194304000) (hok : oidOk zs = true) (hs : Small zs) (hl : xs.length + (oidB zs).length ≤ K.lim) (hb : base ≤ w.heap.size) :
    Calls Try.prog 52 #[.pointer (some ⟨gc, 0, none⟩), .pointer (some ⟨p, 0, none⟩)] w (AddPost K base gc (xs ++ oidB zs) off pl pa ic rb w) := by
  have V := Lib.hid (valid_any a n c zs w hn hy.lt hn32)
  rw [hok] at V
  obtain ⟨z0, z1, r, hz, a0, a1, b0, b1, hr⟩ := oid_form hok
  have hrb : ∀ k, rb = some k → base ≤ k := by
    intro k hk
    obtain ⟨v, _, ho, hv, _⟩ := hg
    exact (ho.lt k (by rw [hv, hk])).1
  have hB := oidB_eq hz
  obtain ⟨n0, rfl⟩ := Int.eq_ofNat_of_zero_le a0
  obtain ⟨n1, rfl⟩ := Int.eq_ofNat_of_zero_le b0
  have s1 : (n1 : Int) ≤ 2147483567 := by have := hs.2; rw [hz] at this; simpa using this
  simp only [Int.toNat_natCast] at hB
  obtain ⟨b, o, ha, hbB, hcell⟩ := hy (by rw [hz]; simp)
  subst ha
  have y0 := hcell 0 (by rw [hz]; simp)
  have y1 := hcell 1 (by rw [hz]; simp)
  rw [hz, Nat.add_zero] at y0
  rw [hz] at y1
  simp only [List.getD_cons_zero, List.getD_cons_succ] at y0 y1
  have hzl : r.length + 2 = n := by rw [← hn, hz]; simp
  have hR : ∀ i, i < r.length → w.cell? ⟨b, o + 2 + i, none⟩ = some (.int .i64 (r.getD i 0)) := by
    intro i hi
    have := hcell (i + 2) (by rw [hz]; simp; omega)
    rw [hz] at this
    simp only [List.getD_cons_succ] at this
    rw [show o + 2 + i = o + (i + 2) by omega]
    exact this
  have hRs : ∀ i, 0 ≤ r.getD i 0 ∧ r.getD i 0 ≤ 2147483647 := by
    intro i
    have h9 := hs.1 (i + 2)
    rw [hz] at h9
    simp only [List.getD_cons_succ] at h9
    refine ⟨?_, h9⟩
    rw [List.getD_eq_getElem?_getD]
    cases h8 : r[i]? with
    | none => simp
    | some z => exact hr z (List.mem_of_getElem? h8)
  have HR := Lib.hid hR
  have HRs := Lib.hid hRs
  have A := Lib.hid (show ∀ w1, Fr [] w w1 → Calls Try.prog 55 #[.pointer (some ⟨gc, 0, none⟩), .int .i64 ((n0 : Int) * 40 + (n1 : Int))] w1 (AddPost K base gc (xs ++ enc (n0 * 40 + n1)) off pl pa ic rb w1) by
    intro w1 hf1
    have := addB128_all K base gc xs off pl pa ic rb (n0 * 40 + n1) w1 (hg.keep hf1) (by rw [hB] at hl; simp only [List.length_append] at hl; omega) (Nat.le_trans hb hf1.size) (by omega)
    rw [show ((n0 * 40 + n1 : Nat) : Int) = (n0 : Int) * 40 + (n1 : Int) by omega] at this
    exact this)
  have p0 := hp.one
  have Hp := Lib.hid hp
  have SL := Lib.hid (fun w => sl_from_oid (some ⟨b, o, none⟩) n c 2 2 rfl (by omega) w)
  have i1 : (1 : Int) < (n : Int) := by omega
  have i0 : (0 : Int) < (n : Int) := by omega
  have i0' : 0 < n := by omega
  have i1' : 1 < n := by omega
  have HB := Lib.hid hB
  have Hl := Lib.hid hl
  have Hrb := Lib.hid hrb
  have Hcut := Lib.hid (show r.length ≠ 0 → cutA (some ⟨b, o, none⟩) c 2 = some ⟨b, o + 2, none⟩ by
    intro h
    unfold cutA
    rw [if_neg (by omega)]
    simp [add_plain'])
  obtain ⟨m, hm⟩ : ∃ m, m = r.length := ⟨_, rfl⟩
  have Hm := Lib.hid hm
  have hnm : n - 2 = m := by omega
  have hmn : m ≤ 4194304000 := by omega
  have SL' := Lib.hid (fun w => (SL.out w).trans (by rw [hnm]))
  have hsl := SL'.out
  have w1 : IntKind.i64.wrap ((n0 : Int) * 40) = (n0 : Int) * 40 := IntWalk.i64_in _ (by omega)
  have w2 : IntKind.i64.wrap ((n0 : Int) * 40 + (n1 : Int)) = (n0 : Int) * 40 + (n1 : Int) := IntWalk.i64_in _ (by omega)
  have Hpc := Lib.hid hpc
  have Hpr := Lib.hid hpr
  have HbB := Lib.hid (show b < w.heap.size from hbB)
  have HB1 := Lib.hid (hya _ rfl)
  clear hg hp hpc hpr hn hc hy hok hs hl hz hcell hzl hR hRs hB hm hnm hrb hr SL b1 a1 s1 hbB hya a0 b0 SL'
  obtain ⟨ca, hca⟩ : ∃ ca, ca = cutA (some ⟨b, o, none⟩) c 2 := ⟨_, rfl⟩
  rw [← hca] at hsl Hcut
  clear hca
  go_enter Try.func52, Try.ntmps52
  go_wp2_with fail
  refine V.out.mono ?_
  rintro e w' ⟨rfl, rfl⟩
  go_wp2_with fail
  refine region_tail 9 (by kernel_rfl) (by kernel_rfl) ?_
  simp only [List.take_succ_cons, List.take_zero, List.drop_succ_cons, List.drop_zero]
  repeat still_step
  refine wpStill_nil ?_
  go_wp2_with fail
  refine (A.out _ ((Fr.refl [] w).drew)).mono ?_
  intro e w3 hq
  have hq' := Lib.hid (hq.from_ ((Fr.refl [] w).drew))
  obtain ⟨rfl, _⟩ := hq
  obtain ⟨_, rb3, g3, f3, r3⟩ := hq'.out
  have q0 := (f3.blk Hp.out (by
    rw [List.mem_cons, not_or]
    refine ⟨Hpc.out, fun h => ?_⟩
    cases rb with
    | none => simp at h
    | some k => simp at h; exact Hpr.out k rfl h)).one
  have G3 := Lib.hid g3
  have F3 := Lib.hid f3
  have R3 := Lib.hid r3
  clear g3 f3 r3 y0 y1 p0 w1 w2
  go_wp2_with fail
  clear hsl q0
  go_loopw [25] (fun i wr => ∃ (k : Nat) (rb' : Option Nat), k ≤ m ∧ i = .int .i64 k ∧ Bld K wr base gc (xs ++ (enc (n0 * 40 + n1) ++ (r.take k).flatMap (fun z => enc z.toNat))) off pl pa ic rb' ∧ Fr (gc :: rb.toList) w wr ∧ (rb' = rb ∨ ∃ q, rb' = some q ∧ w.heap.size ≤ q)) (fun i _ => m - (intOf i).toNat)
  case atStart => exact ⟨0, rb3, Nat.zero_le _, rfl, by rw [List.take_zero, List.flatMap_nil, List.append_nil]; exact G3.out, F3.out, R3.out⟩
  case round =>
    obtain ⟨k, rb', hk, rfl, hB, hF, hrb⟩ := hrel
    have HBk := Lib.hid hB
    have HFk := Lib.hid hF
    have Hrk := Lib.hid hrb
    clear hB hF hrb
    by_cases hlt : k < m
    · have hk' : k < r.length := by have := Hm.out; omega
      obtain rfl : ca = some ⟨b, o + 2, none⟩ := Hcut.out (by omega)
      have c2 := (Fr.block HFk.out b HbB.out (by
        rw [List.mem_cons, not_or]
        refine ⟨HB1.out.1, fun h => ?_⟩
        cases rb with
        | none => simp at h
        | some q => simp at h; exact HB1.out.2 q rfl h))
      have c3 : wr.cell? ⟨b, o + 2 + k, none⟩ = some (.int .i64 (r.getD k 0)) := (World.cell?_of_block (w := w) c2).trans (HR.out k hk')
      obtain ⟨z, hz⟩ : ∃ z, z = r.getD k 0 := ⟨_, rfl⟩
      have hzb := HRs.out k
      rw [← hz] at c3 hzb
      obtain ⟨nz, rfl⟩ := Int.eq_ofNat_of_zero_le hzb.1
      have hzn := Lib.hid (show (r.getD k 0).toNat = nz by rw [← hz]; rfl)
      have hz2 : (nz : Int) ≤ 2147483647 := hzb.2
      have A2 := Lib.hid (addB128_all K base gc (xs ++ (enc (n0 * 40 + n1) ++ (r.take k).flatMap (fun z => enc z.toNat))) off pl pa ic rb' nz wr HBk.out (by
        have h1 := flat_le r k hk'
        have h2 := Hl.out
        rw [hzn.out] at h1
        rw [HB.out] at h2
        simp only [List.length_append] at h2 ⊢
        omega) (Nat.le_trans hb HFk.out.size) (by omega))
      clear c2 hz hzb hk'
      go_wp2_with fail
      refine A2.out.mono ?_
      intro e w5 hq
      have hq' := Lib.hid hq
      obtain ⟨rfl, _⟩ := hq
      go_wp2_with fail
      go_roundw
      case rel =>
        obtain ⟨_, rb5, g5, f5, r5⟩ := AddPost.after (xs := []) HFk.out Hrk.out hq'.out
        refine ⟨k + 1, rb5, by omega, by go_num, ?_, f5, r5⟩
        rw [flat_take r k (by have := Hm.out; omega), hzn.out]
        simpa [List.append_assoc] using g5
      case measure => simp [intOf]; omega
    · have hkm : k = m := by omega
      subst hkm
      go_wp2_with fail
      go_end0
      have := HBk.out
      rw [List.take_of_length_le (by have := Hm.out; omega)] at this
      rw [HB.out]
      exact ⟨rfl, rb', this, HFk.out, Hrk.out⟩
end Go.Proofs.Ytdnepnnkpaoaaaa
