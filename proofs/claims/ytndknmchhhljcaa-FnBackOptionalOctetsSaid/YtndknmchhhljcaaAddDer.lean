/- The contract of (*Builder).AddASN1 on a builder that has had no continuation yet, where the tag is one of one byte and the continuation adds bytes and returns. -/
import Derived.Test.YtndknmchhhljcaaLenAdd
import Derived.Test.YtndknmchhhljcaaFlushA0
import Derived.Test.YtndknmchhhljcaaFlushA1
import Derived.Test.YtndknmchhhljcaaFlushA2
import Derived.Test.YtndknmchhhljcaaFlushA3
namespace Go.Proofs.Ytndknmchhhljcaa
open Go.RowKit
set_option linter.unusedVariables false

theorem and31' {x : Int} (h0 : 0 ≤ x) (h1 : x < 256) : bits .and .u8 x 31 = x % 32 := by
  rw [u8_and x 31 h0 h1 (by omega) (by omega)]
  have h : x.toNat &&& (31 : Int).toNat = x.toNat % 32 := nat_mask5 x.toNat
  rw [h]; omega

theorem der_short (xs out : List Int) (t : Int) (h : out.length ≤ 127) : xs ++ derWrap t out = (xs ++ [t]) ++ ((out.length : Int) :: out) := by
  unfold derWrap derHdr
  rw [if_pos (by omega)]
  simp
theorem der_long (xs out : List Int) (t : Int) (m : Nat) (h : 128 ≤ out.length) (hm : lenB out.length = m) : xs ++ derWrap t out = (xs ++ [t]) ++ ((128 + (m : Int)) :: (bigB m out.length ++ out)) := by
  unfold derWrap derHdr
  rw [if_neg (by omega), hm]
  simp

set_option maxRecDepth 100000 in
set_option maxHeartbeats 3200000 in
theorem addASN1_ok (base g K p : Nat) (pb : Bool) (tag : Int) (xs out : List Int) (off pl : Int) (rb : Option Nat) (w : World)
    (hg : Bld w base g xs off pl pb (.pointer none) rb) (ht : tag % 32 ≠ 31) (h0 : 0 ≤ tag) (h1 : tag < 256) (hl : xs.length + out.length ≤ 4194000000) (ho : out.length ≤ 16777215) (hb : base ≤ w.heap.size)
    (hK : ∀ args W, (callFunc K args).run Try.prog W = .ok (.enter K args) W)
    (hf : ∀ (gc rc : Nat) (ic : Value) (w1 : World), Fr (g :: rb.toList) w w1 → Bld w1 base gc ((xs ++ [tag]) ++ [0]) (xs ++ [tag]).length 1 true ic (some rc) → base ≤ w1.heap.size → w.heap.size ≤ gc → (rb = some rc ∨ w.heap.size ≤ rc) →
      Calls Try.prog K #[.pointer (some ⟨gc, 0, none⟩), .pointer (some ⟨p, 0, none⟩)] w1 (AddPost base gc (((xs ++ [tag]) ++ [0]) ++ out) (xs ++ [tag]).length 1 true ic (some rc) w1)) :
    Calls Try.prog 110 #[.pointer (some ⟨g, 0, none⟩), .int .u8 tag, .func (.func K) #[] #[.pointer (some ⟨p, 0, none⟩)]] w (ContAdd base g (xs ++ derWrap tag out) off pl pb rb w) := by
  have T := Lib.hid (and31' h0 h1)
  have t1 : (tag % 32 == 31) = false := by simpa using ht
  have A := Lib.hid (addU8_any base g xs off pl pb (.pointer none) rb tag w hg (by omega) hb)
  have Hf := Lib.hid hf
  have c0 : w.cell? ⟨g, 0, none⟩ = some .nilIface := by obtain ⟨v, k, _⟩ := hg; exact k.cell 0
  obtain ⟨RES, hRES⟩ : ∃ R, R = xs ++ derWrap tag out := ⟨_, rfl⟩
  rw [← hRES]
  have HR := Lib.hid hRES
  clear hf hg hRES ht
  go_enter Try.func110, Try.ntmps110
  go_wp2_with fail
  refine A.out.mono ?_
  rintro e w1 ⟨rfl, rb1, b1, f1, hr1⟩
  have hpl : (xs ++ [tag]).length = xs.length + 1 := by simp
  have F1 : ∀ w2, Fr (g :: rb1.toList) w1 w2 → Fr (g :: rb.toList) w w2 := fun w2 h => f1.trans h (fun i hi => by
    rw [List.mem_cons] at hi
    rcases hi with rfl | hi
    · exact .inl (by simp)
    · rcases hr1 with rfl | ⟨k, rfl, hk⟩
      · exact .inl (List.mem_cons_of_mem _ hi)
      · simp at hi; subst hi; exact .inr hk)
  have L := Lib.hid (addLP_ok base g K p 1 true pb (xs ++ [tag]) out RES off pl rb1 #[.int .u8 0] w1 b1 (by omega) (by omega) (by omega) (Nat.le_trans hb f1.size) (fun _ => by kernel_rfl) rfl hK
    (fun gc rc ic wa fa ba hba hgc hrc => by
      have := Hf.out gc rc ic wa (F1 wa fa) ba hba (Nat.le_trans f1.size hgc) (by
        rcases hrc with h | h
        · rcases hr1 with h1 | ⟨k, h1, hk⟩
          · exact .inl (by rw [← h1, h])
          · rw [h] at h1; injection h1 with h1; subst h1; exact .inr hk
        · exact .inr (Nat.le_trans f1.size h))
      rw [List.append_assoc] at this
      exact this)
    (fun gc rc ic icc vp wa ka ba hne hba => by
      rw [HR.out]
      by_cases c1 : out.length ≤ 127
      · rw [der_short xs out tag c1]
        exact flush_a0 base g gc rc out.length (xs ++ [tag]).length (xs ++ [tag]) out off pl pb ic icc vp wa ka ba hne rfl rfl (by omega) (by omega) c1 hba
      · by_cases c2 : out.length ≤ 255
        · rw [der_long xs out tag 1 (by omega) (by unfold lenB; rw [if_pos (by omega)])]
          exact flush_a1 base g gc rc out.length (xs ++ [tag]).length (xs ++ [tag]) out off pl pb ic icc vp wa ka ba hne rfl rfl (by omega) (by omega) c2 hba
        · by_cases c3 : out.length ≤ 65535
          · rw [der_long xs out tag 2 (by omega) (by unfold lenB; rw [if_neg (by omega), if_pos (by omega)])]
            exact flush_a2 base g gc rc out.length (xs ++ [tag]).length (xs ++ [tag]) out off pl pb ic icc vp wa ka ba hne rfl rfl (by omega) (by omega) c3 hba
          · rw [der_long xs out tag 3 (by omega) (by unfold lenB; rw [if_neg (by omega), if_neg (by omega)])]
            exact flush_a3 base g gc rc out.length (xs ++ [tag]).length (xs ++ [tag]) out off pl pb ic icc vp wa ka ba hne rfl rfl (by omega) (by omega) ho hba))
  have HF1 := Lib.hid F1
  have Hr1 := Lib.hid hr1
  have Hf1 := Lib.hid f1
  clear b1 f1 hr1 F1 hpl
  go_wp2_with fail
  refine L.out.mono ?_
  rintro e w2 ⟨ic, rfl, rb2, b2, f2, hr2⟩
  have B2 := Lib.hid b2
  have HF2 := Lib.hid (HF1.out w2 f2)
  have Hr2 := Lib.hid hr2
  clear b2 f2 hr2
  go_wp2
  go_end0
  refine ⟨ic, rfl, rb2, B2.out, HF2.out, ?_⟩
  rcases Hr2.out with h | ⟨k, h, hk⟩
  · subst h
    rcases Hr1.out with h | ⟨k, h, hk⟩
    · exact .inl h
    · exact .inr ⟨k, h, hk⟩
  · exact .inr ⟨k, h, Nat.le_trans Hf1.out.size hk⟩
end Go.Proofs.Ytndknmchhhljcaa
