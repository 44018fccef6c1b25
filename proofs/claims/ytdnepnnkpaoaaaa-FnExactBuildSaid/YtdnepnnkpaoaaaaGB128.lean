/- The contract of (*Builder).addBase128Int. -/
import Derived.Test.YtdnepnnkpaoaaaaOid
import Derived.Test.YtdnepnnkpaoaaaaGNum
import Derived.IntWalk
namespace Go.Proofs.Ytdnepnnkpaoaaaa
open Go.RowKit
set_option linter.unusedVariables false

theorem and127b (n : Int) : bits BinOp.and IntKind.u8 (n % 256) 127 = n % 128 := by
  have h : ∀ m : Fin 256, bits BinOp.and IntKind.u8 ((m.val : Nat) : Int) 127 = ((m.val : Nat) : Int) % 128 := by decide +kernel
  obtain ⟨k, hk⟩ := Int.eq_ofNat_of_zero_le (Int.emod_nonneg n (show (256 : Int) ≠ 0 by decide))
  have hlt : k < 256 := by have := Int.emod_lt_of_pos n (show (0 : Int) < 256 by decide); omega
  have := h ⟨k, hlt⟩
  rw [hk]
  simp only at this
  rw [this]
  omega
theorem or128b (n : Int) : bits BinOp.or IntKind.u8 (n % 128) 128 = n % 128 + 128 := by
  have h : ∀ m : Fin 128, bits BinOp.or IntKind.u8 ((m.val : Nat) : Int) 128 = ((m.val : Nat) : Int) + 128 := by decide +kernel
  obtain ⟨k, hk⟩ := Int.eq_ofNat_of_zero_le (Int.emod_nonneg n (show (128 : Int) ≠ 0 by decide))
  have hlt : k < 128 := by have := Int.emod_lt_of_pos n (show (0 : Int) < 128 by decide); omega
  have := h ⟨k, hlt⟩
  rw [hk]
  simpa using this
theorem b128_take (k v j : Nat) (h : j < k) : (b128 k v).take (j + 1) = (b128 k v).take j ++ [((v / 128 ^ (k - 1 - j) % 128 + (if k - 1 - j = 0 then 0 else 128) : Nat) : Int)] := by
  induction k generalizing j with
  | zero => omega
  | succ k ih =>
    cases j with
    | zero => simp [b128]
    | succ j =>
      have := ih j (by omega)
      simp only [b128, List.take_succ_cons, this, List.cons_append]
      rw [show k + 1 - 1 - (j + 1) = k - 1 - j by omega]

theorem grp_of {v k : Nat} (hv : v ≤ 2147483647) (h0 : 0 < v) (hz : v / 128 ^ k = 0) (hp : k = 0 ∨ 0 < v / 128 ^ (k - 1)) : k = grp v := by
  have hk : k = 0 ∨ k = 1 ∨ k = 2 ∨ k = 3 ∨ k = 4 ∨ k = 5 ∨ 6 ≤ k := by omega
  rcases hk with rfl | rfl | rfl | rfl | rfl | rfl | hk
  · simp at hz; omega
  · simp at hz hp; unfold grp; rw [if_pos (by omega)]
  · simp at hz hp; unfold grp; rw [if_neg (by omega), if_pos (by omega)]
  · simp at hz hp; unfold grp; rw [if_neg (by omega), if_neg (by omega), if_pos (by omega)]
  · simp at hz hp; unfold grp; rw [if_neg (by omega), if_neg (by omega), if_neg (by omega), if_pos (by omega)]
  · simp at hz hp; unfold grp; rw [if_neg (by omega), if_neg (by omega), if_neg (by omega), if_neg (by omega)]
  · rcases hp with hp | hp
    · omega
    · have h5 : v / 128 ^ (k - 1) ≤ v / 128 ^ 5 := Nat.div_le_div_left (Nat.pow_le_pow_right (by decide) (by omega)) (by decide)
      simp only [Nat.reducePow] at h5
      omega

set_option maxRecDepth 100000 in
set_option maxHeartbeats 1600000 in
theorem addB128_any (K : Kd) (base g : Nat) (xs : List Int) (off pl : Int) (pa : Bool) (ic : Value) (rb : Option Nat) (v : Nat) (w : World)
    (hg : Bld K w base g xs off pl pa ic rb) (hl : xs.length + (enc v).length ≤ K.lim) (hb : base ≤ w.heap.size) (hv : v ≤ 2147483647) (h0 : 0 < v) :
    Calls Try.prog 55 #[.pointer (some ⟨g, 0, none⟩), .int .i64 v] w (AddPost K base g (xs ++ enc v) off pl pa ic rb w) := by
  have Hg := Lib.hid hg
  have Hl := Lib.hid hl
  clear hl
  have hv0 : ((v : Int) == 0) = false := by simp; omega
  clear hg
  go_enter Try.func55, Try.ntmps55
  go_wp2_with fail
  go_loopw [4, 5] (fun l i wr => ∃ k : Nat, k ≤ 5 ∧ l = .int .i64 k ∧ i = .int .i64 ((v / 128 ^ k : Nat) : Int) ∧ (k = 0 ∨ 0 < v / 128 ^ (k - 1)) ∧ wr = w) (fun _ i _ => (intOf i).toNat)
  case atStart => exact ⟨0, by omega, rfl, by simp, .inl rfl, rfl⟩
  case round =>
    obtain ⟨k, hk, rfl, rfl, hpos, rfl⟩ := hrel
    have Hk := Lib.hid (show v / 128 ^ (k + 1) = v / 128 ^ k / 128 by rw [Nat.pow_succ, Nat.div_div_eq_div_mul])
    have Hend := Lib.hid (fun h => @grp_of v k hv h0 h hpos)
    have hq : v / 128 ^ k ≤ 2147483647 := Nat.le_trans (Nat.div_le_self _ _) hv
    have Hk5 := Lib.hid (show 0 < v / 128 ^ k → k + 1 ≤ 5 by
      intro h
      have : k = 5 ∨ k < 5 := by omega
      rcases this with rfl | h'
      · simp only [Nat.reducePow] at h; omega
      · omega)
    obtain ⟨q, hq'⟩ : ∃ q, q = v / 128 ^ k := ⟨_, rfl⟩
    rw [← hq'] at hq Hk Hend Hk5 ⊢
    have Hq := Lib.hid hq'
    clear hpos hq'
    by_cases hgt : 0 < q
    · have hgt' : (0 : Int) < (q : Int) := by omega
      go_wp2_with fail
      go_roundw
      case rel =>
        refine ⟨k + 1, Hk5.out hgt, ?_, ?_, .inr ?_, by trivial⟩
        · first | rfl | simp
        · rw [Hk.out]; first | rfl | (congr 1; omega)
        · simpa [← Hq.out] using hgt
      case measure => simp [intOf]; omega
    · obtain rfl : q = 0 := by omega
      have hk' := Hend.out (by trivial)
      obtain ⟨E, hE⟩ : ∃ E, E = enc v := ⟨_, rfl⟩
      have HE := Lib.hid (show E = b128 k v by rw [hE, hk']; rfl)
      rw [← hE]
      have HEv := Lib.hid hE
      clear hk' hE hgt
      obtain ⟨w0, hw0⟩ : ∃ w0, w0 = wr := ⟨_, rfl⟩
      have Hw0 := Lib.hid hw0
      go_wp2_with fail
      clear Hend Hq Hk Hk5 hq
      go_loopw [6] (fun i wr => ∃ (j : Nat) (rb' : Option Nat), j ≤ k ∧ i = .int .i64 ((k : Int) - 1 - j) ∧ Bld K wr base g (xs ++ (b128 k v).take j) off pl pa ic rb' ∧ Fr (g :: rb.toList) w0 wr ∧ (rb' = rb ∨ ∃ q, rb' = some q ∧ w0.heap.size ≤ q)) (fun i _ => (intOf i + 1).toNat)
      case atStart => exact ⟨0, rb, by omega, by go_num, by rw [List.take_zero, List.append_nil]; exact Hg.out, by rw [hw0]; exact Fr.refl _ _, .inl rfl⟩
      case round =>
        obtain ⟨j, rb', hj, rfl, hB, hF, hrb⟩ := hrel
        have HB := Lib.hid hB
        have HFr := Lib.hid hF
        have Hrb := Lib.hid hrb
        clear hB hF hrb
        by_cases hlt : j < k
        · obtain ⟨i, hi⟩ : ∃ i, i = k - 1 - j := ⟨_, rfl⟩
          have hi' : (k : Int) - 1 - j = (i : Int) := by omega
          have hi4 : i ≤ 4 := by omega
          have Hi := Lib.hid hi
          rw [hi']
          clear hi hi'
          have hc : i = 0 ∨ i = 1 ∨ i = 2 ∨ i = 3 ∨ i = 4 := by omega
          clear hi4
          have TK := Lib.hid (b128_take k v j hlt)
          rw [← Hi.out] at TK
          have Lj := Lib.hid (show (xs ++ (b128 k v).take j).length + 1 ≤ K.lim by have h1 := Hl.out; rw [← HEv.out, HE.out, b128_len] at h1; rw [List.length_append, List.length_take, b128_len]; omega)
          rcases hc with rfl | rfl | rfl | rfl | rfl
          all_goals (
            go_wp2_with fail
            first | simp only [and127b, or128b] | (rw [show (v : Int) / 268435456 = ((v : Int) / 268435456) % 256 by omega]; simp only [and127b, or128b])
            refine (add_any K base g (xs ++ (b128 k v).take j) [_] off pl pa ic rb' (some ⟨wr.heap.size, 0, none⟩) 1 1 _ (HB.out.keep ((Fr.refl [] wr).alloc _)) rfl ((lit_bin wr [_] #[_] 1 rfl rfl (by omega)).lt) Lj.out (by have := HFr.out.size; rw [← Hw0.out] at hb; simp; omega)).mono ?_
            intro e w5 hq
            have hq' := Lib.hid (hq.from_ ((Fr.refl [] wr).alloc _))
            obtain ⟨rfl, _⟩ := hq
            go_wp2_with fail
            go_roundw
            case rel =>
              have hB := (hq'.out).2
              obtain ⟨rb5, hB5, hF5', hr5⟩ := hB
              have tk := TK.out
              have hii := Hi.out
              refine ⟨j + 1, rb5, by omega, by go_num, ?_, ?_, ?_⟩
              · rw [tk, ← List.append_assoc]
                simpa using hB5
              · have e1 := HFr.out
                exact e1.trans hF5' (fun i hi => by
                  rcases Hrb.out with hr | ⟨q, hr, hq⟩
                  · rw [hr] at hi; exact .inl hi
                  · rw [hr] at hi
                    simp at hi
                    rcases hi with rfl | rfl
                    · exact .inl (by simp)
                    · exact .inr hq)
              · have e1 := HFr.out.size
                rcases hr5 with hr | ⟨q, hr, hq⟩
                · rw [hr]; exact Hrb.out
                · exact .inr ⟨q, hr, Nat.le_trans e1 hq⟩
            case measure => first | (simp [intOf]; done) | (simp [intOf]; omega))
        · have hjk : j = k := by omega
          subst hjk
          have hi' : ¬ (0 : Int) ≤ (j : Int) - 1 - j := by omega
          have i2 : decide ((0 : Int) ≤ (j : Int) - 1 - j) = false := by rw [decide_eq_false_iff_not]; omega
          go_wp2_with fail
          go_end0
          have hB := HB.out
          rw [List.take_of_length_le (by rw [b128_len]; omega), ← HE.out] at hB
          rw [HEv.out] at hB
          rw [← Hw0.out]
          exact ⟨rfl, rb', hB, HFr.out, Hrb.out⟩
end Go.Proofs.Ytdnepnnkpaoaaaa
