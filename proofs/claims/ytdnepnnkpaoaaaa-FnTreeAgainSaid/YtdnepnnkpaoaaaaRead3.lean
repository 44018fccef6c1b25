/- Contracts of laws.behind, of String's ReadBytes, Skip, CopyBytes, Empty, PeekASN1Tag, and of the thin package's functions round them. -/
import Derived.Test.YtdnepnnkpaoaaaaSpec0
import Derived.Test.YtdnepnnkpaoaaaaRead0
import Derived.Laws.CopyOwn
namespace Go.Proofs.Ytdnepnnkpaoaaaa
open Go.RowKit
set_option linter.unusedVariables false

/-- A slice of bytes that the call has made: n of them, in a row of its own. -/
def BehindPost (w : World) (n : Nat) (xs : List Int) (e : Ending) (w' : World) : Prop :=
  ∃ a c, e = .returned (.slice a n c) ∧ n ≤ c ∧ c ≤ maxLen ∧ BIn w' w'.heap.size a xs ∧ Below w.heap.size w w' ∧ OwnB w' w.heap.size 5 (.slice a n c) xs

set_option maxHeartbeats 800000 in
theorem behind_any (a b : Option Addr) (n c m d : Nat) (xs ys : List Int) (w : World) (hn : xs.length = n) (hm : ys.length = m) (h : BIn w w.heap.size a xs) (k : BIn w w.heap.size b ys) (hl : n + m ≤ 4194304000) :
    Calls Try.prog 16 #[.slice a n c, .slice b m d] w (BehindPost w (n + m) (xs ++ ys)) := by
  obtain ⟨i0, hi0, hz0, hz1, hz2⟩ := info_parts u8_info
  have Hn := Lib.hid hn
  have Hm := Lib.hid hm
  clear hn hm
  have o0 : OwnB (w.alloc (.cells #[] 5)) w.heap.size 5 (.slice (some ⟨w.heap.size, 0, none⟩) 0 0) [] := World.ownsRow_made w #[] 0 (Nat.le_refl _) (by simp [maxLen]) rfl
  have h1 : BIn (w.alloc (.cells #[] 5)) w.heap.size a xs := ((Fr.refl [] w).alloc _).bin h (by simp)
  have k1 : BIn (w.alloc (.cells #[] 5)) w.heap.size b ys := ((Fr.refl [] w).alloc _).bin k (by simp)
  go_enter Try.func16, Try.ntmps16
  go_wp2_with (at_builtin; refine wpList_append_bytes _ rfl (.tmp 5) (.tmp 6) _ rfl w.heap.size 5 i0 _ Try.underlying22 hi0 hz0 hz1 hz2 rfl (.slice (some ⟨w.heap.size, 0, none⟩) 0 0) [] rfl o0 w.heap.size a _ _ xs Hn.out rfl h1 ?c1 (by simp) ?_)
  case c1 => have := Hn.out; simp; omega
  intro A1 c1 w1 hown1 hg1 hat1
  have hb1 : Below w.heap.size w w1 := ((Below.refl _ _).alloc (Nat.le_refl _) (.cells #[] 5)).grown hg1 (by simp) (by simp [Value.ownBlock])
  have k2 := k.below hb1
  have o1 : OwnB w1 w.heap.size 5 (.slice A1 n c1) xs := by simpa using hown1
  clear hown1 hat1
  have hs1 := hb1.size
  go_wp2_with (at_builtin; refine wpList_append_bytes _ rfl (.tmp 7) (.tmp 8) _ rfl w.heap.size 5 i0 _ Try.underlying22 hi0 hz0 hz1 hz2 rfl (.slice A1 n c1) xs rfl o1 w.heap.size b _ _ ys Hm.out rfl k2 ?c2 hs1 ?_)
  case c2 => have := Hn.out; have := Hm.out; omega
  intro A2 c2 w2 hown2 hg2 hat2
  go_wp2
  go_ret
  have hn := Hn.out
  have hm := Hm.out
  subst hn; subst hm
  have hb2 : Below w.heap.size w w2 := hb1.grown hg2 hs1 (fun g hg => by
    obtain ⟨a3, c3, e3, _, _, _, h4⟩ := o1.form
    injection e3 with e3
    subst e3
    cases A1 with
    | none => simp [Value.ownBlock] at hg
    | some b1 => simp [Value.ownBlock] at hg; subst hg; exact (h4 b1 rfl).2.2.1)
  have hl2 : (xs ++ ys).length = xs.length + ys.length := by simp
  obtain ⟨a3, c3, e3, g1, g2, _⟩ := hown2.form
  injection e3 with e3 _ e4
  subst e3; subst e4
  rw [hl2] at g1
  exact ⟨A2, c2, rfl, g1, g2, hown2.bin hl2, hb2, hown2⟩

/-- What a method that reads bytes leaves: the string's box and the other box. -/
def ByPost (g go : Nat) (t : TypeId) (v u : Value) (w : World) (e : Ending) (w' : World) : Prop :=
  e = .returned (.bool true) ∧ Fr [g, go] w w' ∧ Blk w' g 74 #[v] ∧ Blk w' go t #[u]

theorem readBytes_yes (g go : Nat) (t : TypeId) (u : Value) (ad : Addr) (n c k : Nat) (w : World) (hg : Blk w g 74 #[.slice (some ad) n c]) (ho : Blk w go t #[u]) (hne : g ≠ go) (hk : k ≤ n) (hc : n ≤ c) (hm : c ≤ maxLen) :
    Calls Try.prog 106 #[.pointer (some ⟨g, 0, none⟩), .pointer (some ⟨go, 0, none⟩), .int .i64 k] w (ByPost g go t (.slice (cutA (some ad) c k) (n - k) (c - k)) (.slice (some ad) k c) w) := by
  have R := Lib.hid (read_yes g (some ad) n c k w hg hk hc hm)
  have q := nil_eql 22 5 Try.underlying22
  have o0 := ho.one
  have of := ho.frozen 0
  have Ho := Lib.hid ho
  have Hg := Lib.hid hg
  clear hg ho
  go_enter Try.func106, Try.ntmps106
  go_wp2_with (go_at_call 91; refine R.out.mono ?_; rintro e w' ⟨rfl, rfl⟩)
  go_ret
  exact ⟨rfl, ((Fr.refl _ _).set_ (.inl (by simp)) _).set_ (.inl (by simp)) _, (Hg.out.set_ 0 _).far (p := ⟨go, 0, none⟩) hne _, (Ho.out.far (p := ⟨g, 0, none⟩) (fun e => hne e.symm) _).set_ 0 _⟩

theorem readBytes_no (g go : Nat) (a : Option Addr) (n c : Nat) (k : Int) (w : World) (hg : Blk w g 74 #[.slice a n c]) (hk : k < 0 ∨ (n : Int) < k) :
    Calls Try.prog 106 #[.pointer (some ⟨g, 0, none⟩), .pointer (some ⟨go, 0, none⟩), .int .i64 k] w fun e w' => e = .returned (.bool false) ∧ w = w' := by
  have R := Lib.hid (read_no g a n c k w hg hk)
  have q := nil_eql 22 5 Try.underlying22
  clear hg hk
  go_enter Try.func106, Try.ntmps106
  go_wp2_with (go_at_call 91; refine R.out.mono ?_; rintro e w' ⟨rfl, rfl⟩)
  go_ret
  exact ⟨rfl, rfl⟩

theorem skip_yes (g : Nat) (ad : Addr) (n c k : Nat) (w : World) (hg : Blk w g 74 #[.slice (some ad) n c]) (hk : k ≤ n) (hc : n ≤ c) (hm : c ≤ maxLen) :
    Calls Try.prog 107 #[.pointer (some ⟨g, 0, none⟩), .int .i64 k] w fun e w' => e = .returned (.bool true) ∧ w' = w.setCell ⟨g, 0, none⟩ (.slice (cutA (some ad) c k) (n - k) (c - k)) := by
  have R := Lib.hid (read_yes g (some ad) n c k w hg hk hc hm)
  have q := nil_neq 22 5 Try.underlying22
  clear hg
  go_enter Try.func107, Try.ntmps107
  go_wp2_with (go_at_call 91; refine R.out.mono ?_; rintro e w' ⟨rfl, rfl⟩)
  go_ret
  exact ⟨rfl, rfl⟩

theorem skip_no (g : Nat) (a : Option Addr) (n c : Nat) (k : Int) (w : World) (hg : Blk w g 74 #[.slice a n c]) (hk : k < 0 ∨ (n : Int) < k) :
    Calls Try.prog 107 #[.pointer (some ⟨g, 0, none⟩), .int .i64 k] w fun e w' => e = .returned (.bool false) ∧ w = w' := by
  have R := Lib.hid (read_no g a n c k w hg hk)
  have q := nil_neq 22 5 Try.underlying22
  clear hg hk
  go_enter Try.func107, Try.ntmps107
  go_wp2_with (go_at_call 91; refine R.out.mono ?_; rintro e w' ⟨rfl, rfl⟩)
  go_ret
  exact ⟨rfl, rfl⟩

theorem u8_of {t : Int} (h0 : 0 ≤ t) (h1 : t ≤ 255) : IntKind.u8.wrap t = t := by rw [IntKind.wrap_u8']; omega

end Go.Proofs.Ytdnepnnkpaoaaaa
