/- Contracts of readUnsigned, and of the header's bits: what (*String).readASN1 leans on. -/
import Derived.Test.YtdnepnnkpaoaaaaRead3
import Derived.BigQuiet
import Derived.Deep.QuietTactic
namespace Go.Proofs.Ytdnepnnkpaoaaaa
open Go.RowKit
set_option linter.unusedVariables false

/-- A box of type t holds a slice of the bytes xs, which lie below block B. -/
def SlB (w : World) (B g : Nat) (t : TypeId) (n : Nat) (xs : List Int) : Prop :=
  ∃ a c, Blk w g t #[.slice a n c] ∧ n ≤ c ∧ c ≤ maxLen ∧ xs.length = n ∧ BIn w B a xs ∧ Byt xs

theorem SlB.fr {S : List Nat} {w w' : World} {B g : Nat} {t : TypeId} {n : Nat} {xs : List Int} (h : SlB w B g t n xs) (hf : Fr S w w') (hg : g ∉ S) (hs : ∀ i ∈ S, B ≤ i) : SlB w' B g t n xs := by
  obtain ⟨a, c, h1, h2, h3, h4, h5, h6⟩ := h
  exact ⟨a, c, hf.blk h1 hg, h2, h3, h4, hf.bin h5 hs, h6⟩
theorem SlB.len {w : World} {B g : Nat} {t : TypeId} {n : Nat} {xs : List Int} (h : SlB w B g t n xs) : xs.length = n := by
  obtain ⟨a, c, h1, h2, h3, h4, h5, h6⟩ := h
  exact h4

theorem u32_step {r x : Int} (h0 : 0 ≤ r) (h1 : r < 16777216) (h2 : 0 ≤ x) (h3 : x < 256) : bits .or .u32 (r * 256 % 4294967296) x = r * 256 + x := by
  rw [show r * 256 % 4294967296 = r * 256 by omega, or_u32 8 (by omega) (by omega) h2 (by omega) (by omega) (by omega)]

/-- What readUnsigned leaves: the bytes' box and the number's box. -/
def UnPost (g go : Nat) (v : Value) (u : Int) (w : World) (e : Ending) (w' : World) : Prop :=
  e = .returned (.bool true) ∧ Fr [g, go] w w' ∧ Blk w' g 74 #[v] ∧ Blk w' go 110 #[.int .u32 u]

set_option maxHeartbeats 800000 in
theorem readUnsigned_yes (g go : Nat) (ad : Addr) (n c k : Nat) (xs : List Int) (z : Int) (B : Nat) (w : World) (hg : Blk w g 74 #[.slice (some ad) n c]) (ho : Blk w go 110 #[.int .u32 z]) (hne : g ≠ go)
    (hn : xs.length = n) (hk : k ≤ n) (hk4 : k ≤ 4) (hc : n ≤ c) (hm : c ≤ maxLen) (hb : BIn w B (some ad) xs) (hB : B ≤ g) (hBo : B ≤ go) (hx : Byt xs) :
    Calls Try.prog 105 #[.pointer (some ⟨g, 0, none⟩), .pointer (some ⟨go, 0, none⟩), .int .i64 k] w (UnPost g go (.slice (cutA (some ad) c k) (n - k) (c - k)) (num (xs.take k)) w) := by
  have R := Lib.hid (read_yes g (some ad) n c k w hg hk hc hm)
  have q := nil_eql 22 5 Try.underlying22
  have o0 := ho.one
  have of := ho.frozen 0
  have F := fun v u => Lib.hid (show Fr [g, go] w ((w.setCell ⟨g, 0, none⟩ v).setCell ⟨go, 0, none⟩ u) ∧ Blk ((w.setCell ⟨g, 0, none⟩ v).setCell ⟨go, 0, none⟩ u) g 74 #[v] ∧ Blk ((w.setCell ⟨g, 0, none⟩ v).setCell ⟨go, 0, none⟩ u) go 110 #[u] from
    ⟨((Fr.refl _ _).set_ (.inl (by simp)) _).set_ (.inl (by simp)) _, (hg.set_ 0 v).far (p := ⟨go, 0, none⟩) hne u, (ho.far (p := ⟨g, 0, none⟩) (fun e => hne e.symm) v).set_ 0 u⟩)
  have Hn := Lib.hid hn
  have hkc : k ≤ c := by omega
  have hx' := Lib.hid hx
  have hb' := Lib.hid hb
  clear hn hg ho hx hb
  go_enter Try.func105, Try.ntmps105
  go_wp2_with (go_at_call 91; refine R.out.mono ?_; rintro e w' ⟨rfl, rfl⟩)
  go_loop [8, 9] (fun r i => ∃ j : Nat, j ≤ k ∧ i = .int .i64 j ∧ r = .int .u32 (num (xs.take j))) (fun _ i => k - (intOf i).toNat)
  case atStart => exact ⟨0, Nat.zero_le _, rfl, rfl⟩
  case round =>
    obtain ⟨j, hj, rfl, rfl⟩ := hrel
    by_cases hlt : j < k
    · have hl : j < xs.length := by have := Hn.out; omega
      obtain ⟨b, o, had, hbB, hcell⟩ := hb'.out.at_ hl
      injection had with had
      subst had
      have hbg : ¬ b = g := by omega
      have g0 := hx'.out.getD j
      obtain ⟨g1, g2⟩ := g0
      have s0 := num_small (xs.take j) 3 (hx'.out.take j) (by simp; omega)
      have S := Lib.hid (num_take_succ hl)
      have U := Lib.hid (u32_step s0.1 (by simpa using s0.2) g1 g2)
      clear s0
      generalize xs.getD j 0 = x at *
      generalize num (xs.take j) = r at *
      go_wp2
      go_round
      case rel => exact ⟨j + 1, by omega, by go_num, by rw [U.out, S.out]⟩
      case measure => simp [intOf]; omega
    · have : j = k := by omega
      subst this
      go_wp2
      go_ret
      exact ⟨rfl, (F _ _).out⟩
end Go.Proofs.Ytdnepnnkpaoaaaa
