/- The contract of (*Builder).addBase128Int. -/
/- The contract of the continuation of AddASN1ObjectIdentifier. -/
import Derived.Test.YtdnepnnkpaoaaaaOid
import Derived.Test.YtdnepnnkpaoaaaaGNum
import Derived.IntWalk
import Derived.Test.YtdnepnnkpaoaaaaGInts
namespace Go.Proofs.Ytdnepnnkpaoaaaa
open Go.RowKit
set_option linter.unusedVariables false

theorem and127b (n : Int) : bits BinOp.and IntKind.u8 (n % 256) 127 = n % 128 := by
  have h : ∀ m : Fin 256, bits BinOp.and IntKind.u8 ((m.val : Nat) : Int) 127 = ((m.val : Nat) : Int) % 128 := by decide +kernel
  obtain ⟨k, hk⟩ := Int.eq_ofNat_of_zero_le (Int.emod_nonneg n (show (256 : Int) ≠ 0 by decide))
  have hlt : k < 256 := by have := Int.emod_lt_of_pos n (show (0 : Int) < 256 by decide); omega
  have := h ⟨k, hlt⟩
  rw [hk]
  simp only at this
  rw [this]
  omega
theorem or128b (n : Int) : bits BinOp.or IntKind.u8 (n % 128) 128 = n % 128 + 128 := by
  have h : ∀ m : Fin 128, bits BinOp.or IntKind.u8 ((m.val : Nat) : Int) 128 = ((m.val : Nat) : Int) + 128 := by decide +kernel
  obtain ⟨k, hk⟩ := Int.eq_ofNat_of_zero_le (Int.emod_nonneg n (show (128 : Int) ≠ 0 by decide))
  have hlt : k < 128 := by have := Int.emod_lt_of_pos n (show (0 : Int) < 128 by decide); omega
  have := h ⟨k, hlt⟩
  rw [hk]
  simpa using this
theorem b128_take (k v j : Nat) (h : j < k) : (b128 k v).take (j + 1) = (b128 k v).take j ++ [((v / 128 ^ (k - 1 - j) % 128 + (if k - 1 - j = 0 then 0 else 128) : Nat) : Int)] := by
  induction k generalizing j with
  | zero => omega
  | succ k ih =>
    cases j with
    | zero => simp [b128]
    | succ j =>
      have := ih j (by omega)
      simp only [b128, List.take_succ_cons, this, List.cons_append]
      rw [show k + 1 - 1 - (j + 1) = k - 1 - j by omega]

theorem grp_of {v k : Nat} (hv : v ≤ 2147483647) (h0 : 0 < v) (hz : v / 128 ^ k = 0) (hp : k = 0 ∨ 0 < v / 128 ^ (k - 1)) : k = grp v := by
  have hk : k = 0 ∨ k = 1 ∨ k = 2 ∨ k = 3 ∨ k = 4 ∨ k = 5 ∨ 6 ≤ k := by omega
  rcases hk with rfl | rfl | rfl | rfl | rfl | rfl | hk
  · simp at hz; omega
  · simp at hz hp; unfold grp; rw [if_pos (by omega)]
  · simp at hz hp; unfold grp; rw [if_neg (by omega), if_pos (by omega)]
  · simp at hz hp; unfold grp; rw [if_neg (by omega), if_neg (by omega), if_pos (by omega)]
  · simp at hz hp; unfold grp; rw [if_neg (by omega), if_neg (by omega), if_neg (by omega), if_pos (by omega)]
  · simp at hz hp; unfold grp; rw [if_neg (by omega), if_neg (by omega), if_neg (by omega), if_neg (by omega)]
  · rcases hp with hp | hp
    · omega
    · have h5 : v / 128 ^ (k - 1) ≤ v / 128 ^ 5 := Nat.div_le_div_left (Nat.pow_le_pow_right (by decide) (by omega)) (by decide)
      simp only [Nat.reducePow] at h5
      omega

set_option maxRecDepth 100000 in
set_option maxHeartbeats 1600000 in
theorem addB128_any (K : Kd) (base g : Nat) (xs : List Int) (off pl : Int) (pa : Bool) (ic : Value) (rb : Option Nat) (v : Nat) (w : World)
    (hg : Bld K w base g xs off pl pa ic rb) (hl : xs.length + (enc v).length ≤ K.lim) (hb : base ≤ w.heap.size) (hv : v ≤ 2147483647) (h0 : 0 < v) :
    Calls Try.prog 55 #[.pointer (some ⟨g, 0, none⟩), .int .i64 v] w (AddPost K base g (xs ++ enc v) off pl pa ic rb w) := by
  have Hg := Lib.hid hg
  have Hl := Lib.hid hl
  clear hl
  have hv0 : ((v : Int) == 0) = false := by simp; omega
  clear hg
  go_enter Try.func55, Try.ntmps55
  go_wp2_with fail
  go_loopw [4, 5] (fun l i wr => ∃ k : Nat, k ≤ 5 ∧ l = .int .i64 k ∧ i = .int .i64 ((v / 128 ^ k : Nat) : Int) ∧ (k = 0 ∨ 0 < v / 128 ^ (k - 1)) ∧ wr = w) (fun _ i _ => (intOf i).toNat)
  case atStart => exact ⟨0, by omega, rfl, by simp, .inl rfl, rfl⟩
  case round =>
    obtain ⟨k, hk, rfl, rfl, hpos, rfl⟩ := hrel
    have Hk := Lib.hid (show v / 128 ^ (k + 1) = v / 128 ^ k / 128 by rw [Nat.pow_succ, Nat.div_div_eq_div_mul])
    have Hend := Lib.hid (fun h => @grp_of v k hv h0 h hpos)
    have hq : v / 128 ^ k ≤ 2147483647 := Nat.le_trans (Nat.div_le_self _ _) hv
    have Hk5 := Lib.hid (show 0 < v / 128 ^ k → k + 1 ≤ 5 by
      intro h
      have : k = 5 ∨ k < 5 := by omega
      rcases this with rfl | h'
      · simp only [Nat.reducePow] at h; omega
      · omega)
    obtain ⟨q, hq'⟩ : ∃ q, q = v / 128 ^ k := ⟨_, rfl⟩
    rw [← hq'] at hq Hk Hend Hk5 ⊢
    have Hq := Lib.hid hq'
    clear hpos hq'
    by_cases hgt : 0 < q
    · have hgt' : (0 : Int) < (q : Int) := by omega
      go_wp2_with fail
      go_roundw
      case rel =>
        refine ⟨k + 1, Hk5.out hgt, ?_, ?_, .inr ?_, by trivial⟩
        · first | rfl | simp
        · rw [Hk.out]; first | rfl | (congr 1; omega)
        · simpa [← Hq.out] using hgt
      case measure => simp [intOf]; omega
    · obtain rfl : q = 0 := by omega
      have hk' := Hend.out (by trivial)
      obtain ⟨E, hE⟩ : ∃ E, E = enc v := ⟨_, rfl⟩
      have HE := Lib.hid (show E = b128 k v by rw [hE, hk']; rfl)
      rw [← hE]
      have HEv := Lib.hid hE
      clear hk' hE hgt
      obtain ⟨w0, hw0⟩ : ∃ w0, w0 = wr := ⟨_, rfl⟩
      have Hw0 := Lib.hid hw0
      go_wp2_with fail
      clear Hend Hq Hk Hk5 hq
      go_loopw [6] (fun i wr => ∃ (j : Nat) (rb' : Option Nat), j ≤ k ∧ i = .int .i64 ((k : Int) - 1 - j) ∧ Bld K wr base g (xs ++ (b128 k v).take j) off pl pa ic rb' ∧ Fr (g :: rb.toList) w0 wr ∧ (rb' = rb ∨ ∃ q, rb' = some q ∧ w0.heap.size ≤ q)) (fun i _ => (intOf i + 1).toNat)
      case atStart => exact ⟨0, rb, by omega, by go_num, by rw [List.take_zero, List.append_nil]; exact Hg.out, by rw [hw0]; exact Fr.refl _ _, .inl rfl⟩
      case round =>
        obtain ⟨j, rb', hj, rfl, hB, hF, hrb⟩ := hrel
        have HB := Lib.hid hB
        have HFr := Lib.hid hF
        have Hrb := Lib.hid hrb
        clear hB hF hrb
        by_cases hlt : j < k
        · obtain ⟨i, hi⟩ : ∃ i, i = k - 1 - j := ⟨_, rfl⟩
          have hi' : (k : Int) - 1 - j = (i : Int) := by omega
          have hi4 : i ≤ 4 := by omega
          have Hi := Lib.hid hi
          rw [hi']
          clear hi hi'
          have hc : i = 0 ∨ i = 1 ∨ i = 2 ∨ i = 3 ∨ i = 4 := by omega
          clear hi4
          have TK := Lib.hid (b128_take k v j hlt)
          rw [← Hi.out] at TK
          have Lj := Lib.hid (show (xs ++ (b128 k v).take j).length + 1 ≤ K.lim by have h1 := Hl.out; rw [← HEv.out, HE.out, b128_len] at h1; rw [List.length_append, List.length_take, b128_len]; omega)
          rcases hc with rfl | rfl | rfl | rfl | rfl
          all_goals (
            go_wp2_with fail
            first | simp only [and127b, or128b] | (rw [show (v : Int) / 268435456 = ((v : Int) / 268435456) % 256 by omega]; simp only [and127b, or128b])
            refine (add_any K base g (xs ++ (b128 k v).take j) [_] off pl pa ic rb' (some ⟨wr.heap.size, 0, none⟩) 1 1 _ (HB.out.keep ((Fr.refl [] wr).alloc _)) rfl ((lit_bin wr [_] #[_] 1 rfl rfl (by omega)).lt) Lj.out (by have := HFr.out.size; rw [← Hw0.out] at hb; simp; omega)).mono ?_
            intro e w5 hq
            have hq' := Lib.hid (hq.from_ ((Fr.refl [] wr).alloc _))
            obtain ⟨rfl, _⟩ := hq
            go_wp2_with fail
            go_roundw
            case rel =>
              have hB := (hq'.out).2
              obtain ⟨rb5, hB5, hF5', hr5⟩ := hB
              have tk := TK.out
              have hii := Hi.out
              refine ⟨j + 1, rb5, by omega, by go_num, ?_, ?_, ?_⟩
              · rw [tk, ← List.append_assoc]
                simpa using hB5
              · have e1 := HFr.out
                exact e1.trans hF5' (fun i hi => by
                  rcases Hrb.out with hr | ⟨q, hr, hq⟩
                  · rw [hr] at hi; exact .inl hi
                  · rw [hr] at hi
                    simp at hi
                    rcases hi with rfl | rfl
                    · exact .inl (by simp)
                    · exact .inr hq)
              · have e1 := HFr.out.size
                rcases hr5 with hr | ⟨q, hr, hq⟩
                · rw [hr]; exact Hrb.out
                · exact .inr ⟨q, hr, Nat.le_trans e1 hq⟩
            case measure => first | (simp [intOf]; done) | (simp [intOf]; omega))
        · have hjk : j = k := by omega
          subst hjk
          have hi' : ¬ (0 : Int) ≤ (j : Int) - 1 - j := by omega
          have i2 : decide ((0 : Int) ≤ (j : Int) - 1 - j) = false := by rw [decide_eq_false_iff_not]; omega
          go_wp2_with fail
          go_end0
          have hB := HB.out
          rw [List.take_of_length_le (by rw [b128_len]; omega), ← HE.out] at hB
          rw [HEv.out] at hB
          rw [← Hw0.out]
          exact ⟨rfl, rb', hB, HFr.out, Hrb.out⟩
end Go.Proofs.Ytdnepnnkpaoaaaa

namespace Go.Proofs.Ytdnepnnkpaoaaaa
open Go.RowKit
set_option linter.unusedVariables false

set_option maxRecDepth 100000 in
set_option maxHeartbeats 1600000 in
theorem addB128_zero (K : Kd) (base g : Nat) (xs : List Int) (off pl : Int) (pa : Bool) (ic : Value) (rb : Option Nat) (w : World)
    (hg : Bld K w base g xs off pl pa ic rb) (hl : xs.length + 1 ≤ K.lim) (hb : base ≤ w.heap.size) :
    Calls Try.prog 55 #[.pointer (some ⟨g, 0, none⟩), .int .i64 0] w (AddPost K base g (xs ++ [0]) off pl pa ic rb w) := by
  have Hg := Lib.hid hg
  have H0 := Lib.hid hb
  clear hg
  go_enter Try.func55, Try.ntmps55
  go_wp2_with fail
  obtain ⟨w0, hw0⟩ : ∃ w0, w0 = w := ⟨_, rfl⟩
  have Hw0 := Lib.hid hw0
  clear hw0
  go_loopw [6] (fun i wr => (i = .int .i64 0 ∧ wr = w) ∨ (i = .int .i64 (-1) ∧ AddPost K base g (xs ++ [0]) off pl pa ic rb w (.returned (.tuple #[])) wr)) (fun i _ => (intOf i + 1).toNat)
  case atStart => exact .inl ⟨by go_num, rfl⟩
  case round =>
    rcases hrel with ⟨rfl, rfl⟩ | ⟨rfl, hq⟩
    · go_wp2_with fail
      rw [show bits BinOp.and IntKind.u8 0 127 = 0 by decide +kernel]
      refine (add_any K base g xs [0] off pl pa ic rb (some ⟨wr.heap.size, 0, none⟩) 1 1 _ (Hg.out.keep ((Fr.refl [] wr).alloc _)) rfl ((lit_bin wr [0] #[.int .u8 0] 1 rfl rfl (by omega)).lt) hl (by simp; omega)).mono ?_
      intro e w5 hq
      have hq' := Lib.hid (hq.from_ ((Fr.refl [] wr).alloc _))
      obtain ⟨rfl, _⟩ := hq
      go_wp2_with fail
      go_roundw
      case rel => exact .inr ⟨by go_num, hq'.out⟩
      case measure => first | (simp [intOf]; done) | (simp [intOf]; omega)
    · have HQ := Lib.hid hq
      clear hq
      go_wp2_with fail
      go_end0
      exact HQ.out
theorem addB128_all (K : Kd) (base g : Nat) (xs : List Int) (off pl : Int) (pa : Bool) (ic : Value) (rb : Option Nat) (v : Nat) (w : World)
    (hg : Bld K w base g xs off pl pa ic rb) (hl : xs.length + (enc v).length ≤ K.lim) (hb : base ≤ w.heap.size) (hv : v ≤ 2147483647) :
    Calls Try.prog 55 #[.pointer (some ⟨g, 0, none⟩), .int .i64 v] w (AddPost K base g (xs ++ enc v) off pl pa ic rb w) := by
  rcases Nat.eq_zero_or_pos v with rfl | h0
  · exact addB128_zero K base g xs off pl pa ic rb w hg hl hb
  · exact addB128_any K base g xs off pl pa ic rb v w hg hl hb hv h0
end Go.Proofs.Ytdnepnnkpaoaaaa

namespace Go.Proofs.Ytdnepnnkpaoaaaa
open Go.RowKit
set_option linter.unusedVariables false

theorem sl_from_oid (a : Option Addr) (n c : Nat) (k : Int) (m : Nat) (hk : k = m) (hn : m ≤ n) (w : World) :
    (Instr.sliceAt 73 (.slice a n c) (some (.int .i64 k)) none none).run Try.prog w = .ok (.slice (cutA a c m) (n - m) (c - m)) w := by
  subst hk
  have ht : Try.prog.underlying 73 = some (.slice (Try.prog.elem 73)) := by kernel_rfl
  have hs : ∀ w, (sizeOf (Try.prog.elem 73)).run Try.prog w = .ok 1 w := fun w => by kernel_rfl
  rw [run_sliceAt_slice w _ _ _ _ _ ht, run_slice_l w _ a n c ht _ _ (by omega) (by omega), hs]
  simp [Result.andThen, sliced, cutA]

/-- Arcs of which none is beyond 2^31 - 1, and no first pair. -/
def Small (zs : List Int) : Prop := (∀ i, zs.getD i 0 ≤ 2147483647) ∧ zs.getD 1 0 ≤ 2147483567
/-- The contents of arcs. -/
def oidB (zs : List Int) : List Int := oidC (zs.map Int.toNat)
theorem oidB_eq {zs : List Int} {z0 z1 : Int} {r : List Int} (h : zs = z0 :: z1 :: r) : oidB zs = enc (z0.toNat * 40 + z1.toNat) ++ r.flatMap (fun z => enc z.toNat) := by
  subst h
  simp [oidB, oidC, List.flatMap_map]
theorem oid_form {zs : List Int} (h : oidOk zs = true) : ∃ z0 z1 r, zs = z0 :: z1 :: r ∧ 0 ≤ z0 ∧ z0 ≤ 2 ∧ 0 ≤ z1 ∧ (z0 < 2 → z1 < 40) ∧ ∀ z ∈ r, 0 ≤ z := by
  unfold oidOk oidHead at h
  match zs, h with
  | [], h => simp at h
  | [_], h => simp at h
  | z0 :: z1 :: r, h =>
    simp only [List.length_cons, List.getD_cons_zero, List.getD_cons_succ, Bool.and_eq_true, Bool.not_eq_true', Bool.or_eq_false_iff, Bool.and_eq_false_iff, decide_eq_false_iff_not, List.all_cons, decide_eq_true_eq, List.all_eq_true] at h
    obtain ⟨⟨⟨_, h1⟩, h2⟩, h3, h4, h5⟩ := h
    exact ⟨z0, z1, r, rfl, h3, by omega, h4, by omega, h5⟩
theorem flat_take (r : List Int) (k : Nat) (hk : k < r.length) : (r.take (k + 1)).flatMap (fun z => enc z.toNat) = (r.take k).flatMap (fun z => enc z.toNat) ++ enc (r.getD k 0).toNat := by
  rw [List.take_succ_eq_append_getElem hk, List.flatMap_append, List.getD_eq_getElem?_getD, List.getElem?_eq_getElem hk]
  simp
theorem flat_le (r : List Int) (k : Nat) (hk : k < r.length) : ((r.take k).flatMap (fun z => enc z.toNat)).length + (enc (r.getD k 0).toNat).length ≤ (r.flatMap (fun z => enc z.toNat)).length := by
  have h1 := flat_take r k hk
  have h2 : r.flatMap (fun z => enc z.toNat) = (r.take (k + 1)).flatMap (fun z => enc z.toNat) ++ (r.drop (k + 1)).flatMap (fun z => enc z.toNat) := by
    rw [← List.flatMap_append, List.take_append_drop]
  rw [h2, h1]
  simp only [List.length_append]
  omega

/-- Two steps that add. -/
theorem AddPost.after {K : Kd} {base g : Nat} {xs ys : List Int} {off pl : Int} {pa : Bool} {ic : Value} {rb rb1 : Option Nat} {w w1 w2 : World} {e : Ending}
    (hf : Fr (g :: rb.toList) w w1) (hr : rb1 = rb ∨ ∃ k, rb1 = some k ∧ w.heap.size ≤ k) (h : AddPost K base g ys off pl pa ic rb1 w1 e w2) : AddPost K base g ys off pl pa ic rb w e w2 := by
  obtain ⟨he, rb2, h1, h2, h3⟩ := h
  refine ⟨he, rb2, h1, hf.trans h2 (fun i hi => ?_), ?_⟩
  · rw [List.mem_cons] at hi
    rcases hi with rfl | hi
    · exact .inl (by simp)
    · rcases hr with h | ⟨k, h, hk⟩
      · rw [h] at hi; exact .inl (List.mem_cons_of_mem _ hi)
      · rw [h] at hi; simp at hi; subst hi; exact .inr hk
  · rcases h3 with h | ⟨k, h, hk⟩
    · rw [h]; exact hr
    · exact .inr ⟨k, h, Nat.le_trans hf.size hk⟩

set_option maxRecDepth 100000 in
set_option maxHeartbeats 1600000 in
theorem clos_oid (K : Kd) (base gc p : Nat) (xs zs : List Int) (off pl : Int) (pa : Bool) (ic : Value) (rb : Option Nat) (a : Option Addr) (n c : Nat) (w : World)
    (hg : Bld K w base gc xs off pl pa ic rb) (hp : Blk w p 73 #[.slice a n c]) (hpc : p ≠ gc) (hpr : ∀ k, rb = some k → p ≠ k) (hn : zs.length = n) (hc : n ≤ c) (hy : IIn w w.heap.size a zs) (hya : ∀ b, a = some b → b.block ≠ gc ∧ ∀ k, rb = some k → b.block ≠ k)
    (hn32 : n ≤ 4194304000) (hok : oidOk zs = true) (hs : Small zs) (hl : xs.length + (oidB zs).length ≤ K.lim) (hb : base ≤ w.heap.size) :
    Calls Try.prog 52 #[.pointer (some ⟨gc, 0, none⟩), .pointer (some ⟨p, 0, none⟩)] w (AddPost K base gc (xs ++ oidB zs) off pl pa ic rb w) := by
  have V := Lib.hid (valid_any a n c zs w hn hy.lt hn32)
  rw [hok] at V
  obtain ⟨z0, z1, r, hz, a0, a1, b0, b1, hr⟩ := oid_form hok
  have hrb : ∀ k, rb = some k → base ≤ k := by
    intro k hk
    obtain ⟨v, _, ho, hv, _⟩ := hg
    exact (ho.lt k (by rw [hv, hk])).1
  have hB := oidB_eq hz
  obtain ⟨n0, rfl⟩ := Int.eq_ofNat_of_zero_le a0
  obtain ⟨n1, rfl⟩ := Int.eq_ofNat_of_zero_le b0
  have s1 : (n1 : Int) ≤ 2147483567 := by have := hs.2; rw [hz] at this; simpa using this
  simp only [Int.toNat_natCast] at hB
  obtain ⟨b, o, ha, hbB, hcell⟩ := hy (by rw [hz]; simp)
  subst ha
  have y0 := hcell 0 (by rw [hz]; simp)
  have y1 := hcell 1 (by rw [hz]; simp)
  rw [hz, Nat.add_zero] at y0
  rw [hz] at y1
  simp only [List.getD_cons_zero, List.getD_cons_succ] at y0 y1
  have hzl : r.length + 2 = n := by rw [← hn, hz]; simp
  have hR : ∀ i, i < r.length → w.cell? ⟨b, o + 2 + i, none⟩ = some (.int .i64 (r.getD i 0)) := by
    intro i hi
    have := hcell (i + 2) (by rw [hz]; simp; omega)
    rw [hz] at this
    simp only [List.getD_cons_succ] at this
    rw [show o + 2 + i = o + (i + 2) by omega]
    exact this
  have hRs : ∀ i, 0 ≤ r.getD i 0 ∧ r.getD i 0 ≤ 2147483647 := by
    intro i
    have h9 := hs.1 (i + 2)
    rw [hz] at h9
    simp only [List.getD_cons_succ] at h9
    refine ⟨?_, h9⟩
    rw [List.getD_eq_getElem?_getD]
    cases h8 : r[i]? with
    | none => simp
    | some z => exact hr z (List.mem_of_getElem? h8)
  have HR := Lib.hid hR
  have HRs := Lib.hid hRs
  have A := Lib.hid (show ∀ w1, Fr [] w w1 → Calls Try.prog 55 #[.pointer (some ⟨gc, 0, none⟩), .int .i64 ((n0 : Int) * 40 + (n1 : Int))] w1 (AddPost K base gc (xs ++ enc (n0 * 40 + n1)) off pl pa ic rb w1) by
    intro w1 hf1
    have := addB128_all K base gc xs off pl pa ic rb (n0 * 40 + n1) w1 (hg.keep hf1) (by rw [hB] at hl; simp only [List.length_append] at hl; omega) (Nat.le_trans hb hf1.size) (by omega)
    rw [show ((n0 * 40 + n1 : Nat) : Int) = (n0 : Int) * 40 + (n1 : Int) by omega] at this
    exact this)
  have p0 := hp.one
  have Hp := Lib.hid hp
  have SL := Lib.hid (fun w => sl_from_oid (some ⟨b, o, none⟩) n c 2 2 rfl (by omega) w)
  have i1 : (1 : Int) < (n : Int) := by omega
  have i0 : (0 : Int) < (n : Int) := by omega
  have i0' : 0 < n := by omega
  have i1' : 1 < n := by omega
  have HB := Lib.hid hB
  have Hl := Lib.hid hl
  have Hrb := Lib.hid hrb
  have Hcut := Lib.hid (show r.length ≠ 0 → cutA (some ⟨b, o, none⟩) c 2 = some ⟨b, o + 2, none⟩ by
    intro h
    unfold cutA
    rw [if_neg (by omega)]
    simp [add_plain'])
  obtain ⟨m, hm⟩ : ∃ m, m = r.length := ⟨_, rfl⟩
  have Hm := Lib.hid hm
  have hnm : n - 2 = m := by omega
  have hmn : m ≤ 4194304000 := by omega
  have SL' := Lib.hid (fun w => (SL.out w).trans (by rw [hnm]))
  have hsl := SL'.out
  have w1 : IntKind.i64.wrap ((n0 : Int) * 40) = (n0 : Int) * 40 := IntWalk.i64_in _ (by omega)
  have w2 : IntKind.i64.wrap ((n0 : Int) * 40 + (n1 : Int)) = (n0 : Int) * 40 + (n1 : Int) := IntWalk.i64_in _ (by omega)
  have Hpc := Lib.hid hpc
  have Hpr := Lib.hid hpr
  have HbB := Lib.hid (show b < w.heap.size from hbB)
  have HB1 := Lib.hid (hya _ rfl)
  clear hg hp hpc hpr hn hc hy hok hs hl hz hcell hzl hR hRs hB hm hnm hrb hr SL b1 a1 s1 hbB hya a0 b0 SL'
  obtain ⟨ca, hca⟩ : ∃ ca, ca = cutA (some ⟨b, o, none⟩) c 2 := ⟨_, rfl⟩
  rw [← hca] at hsl Hcut
  clear hca
  go_enter Try.func52, Try.ntmps52
  go_wp2_with fail
  refine V.out.mono ?_
  rintro e w' ⟨rfl, rfl⟩
  go_wp2_with fail
  refine region_tail 9 (by kernel_rfl) (by kernel_rfl) ?_
  simp only [List.take_succ_cons, List.take_zero, List.drop_succ_cons, List.drop_zero]
  repeat still_step
  refine wpStill_nil ?_
  go_wp2_with fail
  refine (A.out _ ((Fr.refl [] w).drew)).mono ?_
  intro e w3 hq
  have hq' := Lib.hid (hq.from_ ((Fr.refl [] w).drew))
  obtain ⟨rfl, _⟩ := hq
  obtain ⟨_, rb3, g3, f3, r3⟩ := hq'.out
  have q0 := (f3.blk Hp.out (by
    rw [List.mem_cons, not_or]
    refine ⟨Hpc.out, fun h => ?_⟩
    cases rb with
    | none => simp at h
    | some k => simp at h; exact Hpr.out k rfl h)).one
  have G3 := Lib.hid g3
  have F3 := Lib.hid f3
  have R3 := Lib.hid r3
  clear g3 f3 r3 y0 y1 p0 w1 w2
  go_wp2_with fail
  clear hsl q0
  go_loopw [25] (fun i wr => ∃ (k : Nat) (rb' : Option Nat), k ≤ m ∧ i = .int .i64 k ∧ Bld K wr base gc (xs ++ (enc (n0 * 40 + n1) ++ (r.take k).flatMap (fun z => enc z.toNat))) off pl pa ic rb' ∧ Fr (gc :: rb.toList) w wr ∧ (rb' = rb ∨ ∃ q, rb' = some q ∧ w.heap.size ≤ q)) (fun i _ => m - (intOf i).toNat)
  case atStart => exact ⟨0, rb3, Nat.zero_le _, rfl, by rw [List.take_zero, List.flatMap_nil, List.append_nil]; exact G3.out, F3.out, R3.out⟩
  case round =>
    obtain ⟨k, rb', hk, rfl, hB, hF, hrb⟩ := hrel
    have HBk := Lib.hid hB
    have HFk := Lib.hid hF
    have Hrk := Lib.hid hrb
    clear hB hF hrb
    by_cases hlt : k < m
    · have hk' : k < r.length := by have := Hm.out; omega
      obtain rfl : ca = some ⟨b, o + 2, none⟩ := Hcut.out (by omega)
      have c2 := (Fr.block HFk.out b HbB.out (by
        rw [List.mem_cons, not_or]
        refine ⟨HB1.out.1, fun h => ?_⟩
        cases rb with
        | none => simp at h
        | some q => simp at h; exact HB1.out.2 q rfl h))
      have c3 : wr.cell? ⟨b, o + 2 + k, none⟩ = some (.int .i64 (r.getD k 0)) := (World.cell?_of_block (w := w) c2).trans (HR.out k hk')
      obtain ⟨z, hz⟩ : ∃ z, z = r.getD k 0 := ⟨_, rfl⟩
      have hzb := HRs.out k
      rw [← hz] at c3 hzb
      obtain ⟨nz, rfl⟩ := Int.eq_ofNat_of_zero_le hzb.1
      have hzn := Lib.hid (show (r.getD k 0).toNat = nz by rw [← hz]; rfl)
      have hz2 : (nz : Int) ≤ 2147483647 := hzb.2
      have A2 := Lib.hid (addB128_all K base gc (xs ++ (enc (n0 * 40 + n1) ++ (r.take k).flatMap (fun z => enc z.toNat))) off pl pa ic rb' nz wr HBk.out (by
        have h1 := flat_le r k hk'
        have h2 := Hl.out
        rw [hzn.out] at h1
        rw [HB.out] at h2
        simp only [List.length_append] at h2 ⊢
        omega) (Nat.le_trans hb HFk.out.size) (by omega))
      clear c2 hz hzb hk'
      go_wp2_with fail
      refine A2.out.mono ?_
      intro e w5 hq
      have hq' := Lib.hid hq
      obtain ⟨rfl, _⟩ := hq
      go_wp2_with fail
      go_roundw
      case rel =>
        obtain ⟨_, rb5, g5, f5, r5⟩ := AddPost.after (xs := []) HFk.out Hrk.out hq'.out
        refine ⟨k + 1, rb5, by omega, by go_num, ?_, f5, r5⟩
        rw [flat_take r k (by have := Hm.out; omega), hzn.out]
        simpa [List.append_assoc] using g5
      case measure => simp [intOf]; omega
    · have hkm : k = m := by omega
      subst hkm
      go_wp2_with fail
      go_end0
      have := HBk.out
      rw [List.take_of_length_le (by have := Hm.out; omega)] at this
      rw [HB.out]
      exact ⟨rfl, rb', this, HFk.out, Hrk.out⟩
end Go.Proofs.Ytdnepnnkpaoaaaa
