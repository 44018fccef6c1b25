/- The contract of (*String).readASN1 whole, and of ReadAnyASN1, which hands on to it. -/
import Derived.Test.YtdnepnnkpaoaaaaDer2
namespace Go.Proofs.Ytdnepnnkpaoaaaa
open Go.RowKit
set_option linter.unusedVariables false

theorem readASN1_any (skip : Bool) (g go gt : Nat) (tO : TypeId) (htO : skip = true → tO = 74) (vo : Value) (n : Nat) (xs : List Int) (z : Int) (B : Nat) (w : World)
    (hs : SlB w B g 74 n xs) (ho : Blk w go tO #[vo]) (ht : Blk w gt 80 #[.int .u8 z]) (h1 : g ≠ go) (h2 : g ≠ gt) (h3 : go ≠ gt) (hB : B ≤ g) (hBo : B ≤ go) (hBt : B ≤ gt) (hl : Lim n) :
    Calls Try.prog 90 #[.pointer (some ⟨g, 0, none⟩), .pointer (some ⟨go, 0, none⟩), .pointer (some ⟨gt, 0, none⟩), .bool skip] w (DerPost skip B g go gt tO n xs vo w) := by
  obtain ⟨a, c, hg, hc, hm, hn, hb, hx⟩ := hs
  have lt2 : n < 2 → first xs = none → Calls Try.prog 90 #[.pointer (some ⟨g, 0, none⟩), .pointer (some ⟨go, 0, none⟩), .pointer (some ⟨gt, 0, none⟩), .bool skip] w (DerPost skip B g go gt tO n xs vo w) := fun h hf =>
    (readASN1_lt2 skip g go gt a n c w hg h).mono fun e w' ⟨he, hw⟩ => by
      subst hw
      exact .inl ⟨hf, he, Fr.refl _ _, ⟨a, c, hg, hc, hm, hn, hb, hx⟩, ho, z, ht⟩
  match xs, hn, hb, hx, lt2 with
  | [], hn, hb, hx, lt2 => exact lt2 (by simp at hn; omega) rfl
  | [_], hn, hb, hx, lt2 => exact lt2 (by simp at hn; omega) rfl
  | x0 :: x1 :: r, hn, hb, hx, _ =>
    have hn' : r.length + 2 = n := by simpa using hn
    obtain ⟨b, o, rfl, _, _⟩ := hb (by simp)
    obtain ⟨m0, m1⟩ := hx x1 (by simp)
    by_cases hh : x0 % 32 = 31
    · exact (readASN1_high skip g go gt tO vo b o n c x0 x1 r z B w hg ho ht hn' hc hm hb hx hh).mono fun e w' h => .inl ⟨first_high hh, h⟩
    · by_cases hl1 : x1 < 128
      · obtain ⟨k, rfl⟩ := Int.eq_ofNat_of_zero_le m0
        by_cases hk : k + 2 ≤ n
        · exact (readASN1_short skip g go gt tO htO vo b o n c k (if skip then k else k + 2) x0 r _ _ z B w hg ho ht h1 h2 h3 hB hBo hBt hn' hc hm hb hx hh (by omega) hk rfl rfl rfl).mono fun e w' h => .inr ⟨x0, 2, k + 2, first_short_yes hn' hh (by omega) hk, h⟩
        · exact (readASN1_shortno skip g go gt tO vo b o n c k x0 r z B w hg ho ht h1 h2 h3 hB hBo hBt hn' hc hm hb hx hh (by omega) (by omega)).mono fun e w' h => .inl ⟨first_short_no hn' hh (by omega) (by omega), h⟩
      · obtain ⟨m, hm'⟩ : ∃ m : Nat, x1 = 128 + (m : Int) := ⟨(x1 - 128).toNat, by omega⟩
        subst hm'
        have I : LongIn g go gt tO vo b o n c m x0 r z B w := ⟨hg, ho, ht, h1, h2, h3, hB, hBo, hBt, hn', hc, hm, hb, hx, hh, by omega⟩
        by_cases hbad : m = 0 ∨ 4 < m ∨ r.length < m
        · exact (readASN1_longbad skip g go gt tO vo b o n c m x0 r z B w I hbad).mono fun e w' h => .inl ⟨first_long_bad hh hbad, h⟩
        · exact readASN1_long skip g go gt tO htO vo b o n c m x0 r z B w I (by omega) (by omega) (by omega) hl

theorem readAnyASN1_any (g go gt : Nat) (vo : Value) (n : Nat) (xs : List Int) (z : Int) (B : Nat) (w : World)
    (hs : SlB w B g 74 n xs) (ho : Blk w go 74 #[vo]) (ht : Blk w gt 80 #[.int .u8 z]) (h1 : g ≠ go) (h2 : g ≠ gt) (h3 : go ≠ gt) (hB : B ≤ g) (hBo : B ≤ go) (hBt : B ≤ gt) (hl : Lim n) :
    Calls Try.prog 50 #[.pointer (some ⟨g, 0, none⟩), .pointer (some ⟨go, 0, none⟩), .pointer (some ⟨gt, 0, none⟩)] w (DerPost true B g go gt 74 n xs vo w) := by
  have H := Lib.hid (readASN1_any true g go gt 74 (fun _ => rfl) vo n xs z B w hs ho ht h1 h2 h3 hB hBo hBt hl)
  clear hs ho ht
  go_enter Try.func50, Try.ntmps50
  go_wp2_with fail
  refine H.out.mono ?_
  intro e w' hp
  rcases hp with ⟨hf, rfl, hp⟩ | ⟨t, b, k, hf, rfl, hp⟩
  · have hf' := Lib.hid hf
    clear hf
    go_wp2
    go_ret
    exact .inl ⟨hf'.out, rfl, hp⟩
  · have hf' := Lib.hid hf
    clear hf
    go_wp2
    go_ret
    exact .inr ⟨t, b, k, hf'.out, rfl, hp⟩
end Go.Proofs.Ytdnepnnkpaoaaaa
