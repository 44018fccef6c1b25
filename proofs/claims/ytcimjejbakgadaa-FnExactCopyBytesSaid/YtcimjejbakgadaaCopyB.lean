/- The contracts of (*String).CopyBytes and of impl.CopyBytes. -/
import Derived.Test.YtcimjejbakgadaaImpBytes
import Derived.Test.YtcimjejbakgadaaSpecBig
import Derived.Test.YtcimjejbakgadaaImpAsn
import Derived.Test.YtcimjejbakgadaaFlush
import Derived.Deep.DeepMust
namespace Go.Proofs.Ytcimjejbakgadaa
open Go.RowKit
set_option linter.unusedVariables false

/-- What CopyBytes leaves where there are so many bytes. -/
def CpPost (g base : Nat) (v : Value) (A : Option Addr) (m ct : Nat) (ys : List Int) (S : List Nat) (w : World) (e : Ending) (w' : World) : Prop :=
  e = .returned (.bool true) ∧ Fr S w w' ∧ Blk w' g 66 #[v] ∧ (0 < m → OwnB w' base 5 (.slice A m ct) ys)

set_option maxRecDepth 100000 in
set_option maxHeartbeats 1600000 in
theorem copyBytes_yes (base g r n c m ct : Nat) (b o : Nat) (xs zs : List Int) (w : World) (hg : Blk w g 66 #[.slice (some ⟨b, o, none⟩) n c]) (hn : xs.length = n) (hc : n ≤ c) (hm : c ≤ maxLen) (hb : BIn w w.heap.size (some ⟨b, o, none⟩) xs)
    (hown : OwnB w base 5 (.slice (some ⟨r, 0, none⟩) m ct) zs) (hz : zs.length = m) (hmn : m ≤ n) (hm0 : 0 < m) (hbr : b ≠ r) (hbg : b ≠ g) :
    Calls Try.prog 76 #[.pointer (some ⟨g, 0, none⟩), .slice (some ⟨r, 0, none⟩) m ct] w (CpPost g base (.slice (cutA (some ⟨b, o, none⟩) c m) (n - m) (c - m)) (some ⟨r, 0, none⟩) m ct (xs.take m) [g, r] w) := by
  have R := Lib.hid (read_yes g (some ⟨b, o, none⟩) n c m w hg hmn hc hm)
  have q := nil_eql 24 5 Try.underlying24
  have h9 := hown.ne_blk hg (by decide)
  have hgr : g ≠ r := fun e => h9 (by subst e; rfl)
  have F0 := (Fr.refl [g, r] w).set_ (p := ⟨g, 0, none⟩) (.inl (by simp)) (.slice (cutA (some ⟨b, o, none⟩) c m) (n - m) (c - m))
  have F1 := (Fr.refl [g] w).set_ (p := ⟨g, 0, none⟩) (.inl (by simp)) (.slice (cutA (some ⟨b, o, none⟩) c m) (n - m) (c - m))
  have G1 := hg.set_ 0 (.slice (cutA (some ⟨b, o, none⟩) c m) (n - m) (c - m))
  have O1 := hown.fr F1 (by simp [Value.ownBlock]; exact fun e => hgr e.symm)
  have B1 : BIn (w.setCell ⟨g, 0, none⟩ (.slice (cutA (some ⟨b, o, none⟩) c m) (n - m) (c - m))) w.heap.size (some ⟨b, o, none⟩) xs := fun hh => by
    obtain ⟨b', o', e, h1, h2⟩ := hb hh
    injection e with e; injection e with e1 e2; subst e1; subst e2
    exact ⟨b, o, rfl, h1, fun i hi => (World.cell?_of_block (w := w) (F1.block b h1 (by simp; exact hbg))).trans (h2 i hi)⟩
  obtain ⟨cur, q1, q2, q2b, q3, q4, q5⟩ := O1.cur hz
  obtain ⟨cs, hcs⟩ : ∃ cs, cs = (xs.take m).map (Value.int .u8) := ⟨_, rfl⟩
  have hcl : cs.length = m := by rw [hcs]; simp; omega
  have hsrc : ∀ (j : Nat) (v : Value), cs[j]? = some v → (w.setCell ⟨g, 0, none⟩ (.slice (cutA (some ⟨b, o, none⟩) c m) (n - m) (c - m))).cell? ((⟨b, o, none⟩ : Addr).add j) = some v := by
    intro j v hj
    have hjl : j < m := by
      rcases Nat.lt_or_ge j m with h | h
      · exact h
      · rw [List.getElem?_eq_none (by omega)] at hj; cases hj
    obtain ⟨b', o', e, h1, h2⟩ := B1 (by omega)
    injection e with e; injection e with e1 e2; subst e1; subst e2
    rw [add_plain', h2 j (by omega)]
    rw [hcs, List.getElem?_map, List.getElem?_take, if_pos hjl, List.getElem?_eq_getElem (by omega)] at hj
    rw [List.getD_eq_getElem?_getD, List.getElem?_eq_getElem (by omega)]
    exact hj
  have HS := Lib.hid hsrc
  have HCL := Lib.hid hcl
  have HCS := Lib.hid hcs
  have HF1 := Lib.hid F0
  have HG1 := Lib.hid G1
  have H1 := Lib.hid q1
  have hct : m ≤ ct := q4
  have Hq2 := Lib.hid q2
  have Hq2b := Lib.hid q2b
  have Hbr := Lib.hid q3
  have Hcm := Lib.hid q5
  have Hz := Lib.hid hz
  have Hn := Lib.hid hn
  have h1c := Lib.hid (show ∀ v ∈ cs, v.oneCell' = true by rw [hcs]; intro v hv; rw [List.mem_map] at hv; obtain ⟨y, _, rfl⟩ := hv; rfl)
  have Hmin := Lib.hid (show cs.length = Nat.min m m by rw [hcl]; simp)
  clear hg hn hb hown hz hsrc hcl hcs F1 F0 G1 O1 B1 q1 q2 q2b q3 q5 h9
  go_enter Try.func76, Try.ntmps76
  go_wp2_with fail
  refine R.out.mono ?_
  rintro e w1 ⟨rfl, hw1⟩
  rw [← hw1] at HS HF1 HG1 H1
  clear hw1
  go_wp2_with (refine wpList_copy_own rfl (.tmp 14) (.tmp 15) 24 24 rfl 5 Try.underlying24 (by kernel_rfl) r 0 m ct ⟨b, o, none⟩ m c rfl rfl cur.toArray 5 H1.out cs Hmin.out HS.out (by rw [HCL.out]; simp; rw [Hq2.out]; exact hct) h1c.out ?_)
  go_ret
  have hg2 := hgr
  refine ⟨ret_bool ?_, ?_, ?_, ?_⟩
  · rw [HCL.out]; simp
  · exact HF1.out.setRow (.inl (by simp)) _
  · unfold Blk
    rw [setRow_other w1 r g _ hgr]
    exact HG1.out
  · intro _
    have hz2 := Hz.out
    have h2 := OwnB.setRow (off := 0) (ys := xs.take m) Hbr.out hct Hcm.out hz2 H1.out Hq2.out Hq2b.out (by have := Hn.out; rw [List.length_take]; omega)
    rw [HCS.out]
    simpa using h2
set_option maxRecDepth 100000 in
set_option maxHeartbeats 1600000 in
theorem copyBytes_none (g n c ct : Nat) (b o : Nat) (A : Option Addr) (w : World) (hg : Blk w g 66 #[.slice (some ⟨b, o, none⟩) n c]) (hc : n ≤ c) (hm : c ≤ maxLen) :
    Calls Try.prog 76 #[.pointer (some ⟨g, 0, none⟩), .slice A 0 ct] w fun e w' => e = .returned (.bool true) ∧ w' = w.setCell ⟨g, 0, none⟩ (.slice (cutA (some ⟨b, o, none⟩) c 0) (n - 0) (c - 0)) := by
  have R := Lib.hid (read_yes g (some ⟨b, o, none⟩) n c 0 w hg (Nat.zero_le _) hc hm)
  have q := nil_eql 24 5 Try.underlying24
  go_enter Try.func76, Try.ntmps76
  go_wp2_with fail
  refine R.out.mono ?_
  rintro e w1 ⟨rfl, hw1⟩
  go_wp2_with (refine wpList_copy_nothing rfl (.tmp 14) (.tmp 15) 24 24 rfl 5 Try.underlying24 (by kernel_rfl) A (some ⟨b, o, none⟩) 0 ct 0 c rfl rfl rfl ?_)
  go_ret
  exact ⟨ret_bool (by simp), by simp only [Nat.sub_zero]⟩

set_option maxRecDepth 100000 in
set_option maxHeartbeats 1600000 in
theorem copyBytes_no (g n c m ct : Nat) (a A : Option Addr) (w : World) (hg : Blk w g 66 #[.slice a n c]) (hmn : n < m) :
    Calls Try.prog 76 #[.pointer (some ⟨g, 0, none⟩), .slice A m ct] w fun e w' => e = .returned (.bool false) ∧ w = w' := by
  have R := Lib.hid (read_no g a n c (m : Int) w hg (.inr (by omega)))
  have q := nil_eql 24 5 Try.underlying24
  go_enter Try.func76, Try.ntmps76
  go_wp2_with fail
  refine R.out.mono ?_
  rintro e w1 ⟨rfl, rfl⟩
  go_wp2
  go_ret
  exact ⟨rfl, rfl⟩

/-- The ends of CopyBytes together. -/
theorem copyBytes_any (B base g n c m ct : Nat) (a A : Option Addr) (xs zs : List Int) (w : World) (hg : Blk w g 66 #[.slice a n c]) (hn : xs.length = n) (hc : n ≤ c) (hm : c ≤ maxLen) (hx : Byt xs) (hz : zs.length = m)
    (hb : BIn w g a xs) (hgb : g ≤ base) (hB : B ≤ g) (hgw : g < w.heap.size) (hzb : BIn w w.heap.size A zs) (hBw : B ≤ w.heap.size)
    (hown : OwnB w base 5 (.slice A m ct) zs) (hp : 0 < n ∨ 0 < m) :
    Calls Try.prog 76 #[.pointer (some ⟨g, 0, none⟩), .slice A m ct] w fun e w' => ∃ (ok : Bool) (n1 c1 : Nat) (a1 : Option Addr) (y1 y2 : List Int), e = .returned (.bool ok) ∧ Below B w w' ∧ Blk w' g 66 #[.slice a1 n1 c1] ∧ y1.length = n1 ∧ y2.length = m ∧ BIn w' w'.heap.size a1 y1 ∧ BIn w' w'.heap.size A y2 ∧ n1 ≤ n ∧
      ∀ w0 e2 w2, TwoPost w0 y2 y1 ok e2 w2 → TwoOf (cutOf n xs (m : Int)) w0 e2 w2 := by
  by_cases hmn : m ≤ n
  · have hn0 : 0 < n := by omega
    obtain ⟨b, o, rfl, hbB, hbx⟩ := hb (by omega)
    have hb2 := hb
    rcases Nat.eq_zero_or_pos m with rfl | hm0
    · refine (copyBytes_none g n c ct b o A w hg hc hm).mono ?_
      rintro e w' ⟨rfl, rfl⟩
      have F := (Fr.refl [g] w).set_ (p := ⟨g, 0, none⟩) (.inl (by simp)) (.slice (cutA (some ⟨b, o, none⟩) c 0) (n - 0) (c - 0))
      refine ⟨true, n - 0, _, _, xs.drop 0, [], rfl, F.below (by simp; exact hB) hBw, hg.set_ 0 _, by simp; exact hn, rfl, (F.bin (hb.cut (by omega)) (by simp)).lt, BIn.nil _ _ _, by omega, fun w0 e2 w2 h => ?_⟩
      rw [cutOf, if_pos (by omega)]
      exact h
    · obtain ⟨r, rfl, hr⟩ : ∃ r, A = some ⟨r, 0, none⟩ ∧ base ≤ r := by
        rcases hown.2 with ⟨h, hl⟩ | ⟨r, cap, cur, h, hb, _⟩
        · rw [hz] at *; simp_all
        · simp only [Value.slice.injEq] at h
          exact ⟨r, h.1, hb⟩
      refine (copyBytes_yes base g r n c m ct b o xs zs w hg hn hc hm (fun h => by obtain ⟨b', o', e, h1, h2⟩ := hb h; exact ⟨b', o', e, by omega, h2⟩) hown hz hmn hm0 (by omega) (by omega)).mono ?_
      rintro e w' ⟨rfl, f, s1, s2⟩
      have h2 := s2 hm0
      refine ⟨true, n - m, _, _, xs.drop m, xs.take m, rfl, f.below (by simp; omega) hBw, s1, by simp; omega, by simp; omega, (f.bin (hb.cut (by omega)) (by simp; omega)).lt, h2.bin (by simp; omega), by omega, fun w0 e2 w2 h => ?_⟩
      rw [cutOf, if_pos (by omega)]
      exact h
  · refine (copyBytes_no g n c m ct a A w hg (by omega)).mono ?_
    rintro e w' ⟨rfl, rfl⟩
    refine ⟨false, n, c, a, xs, zs, rfl, Below.refl _ _, hg, hn, hz, (fun h => by obtain ⟨b', o', e, h1, h2⟩ := hb h; exact ⟨b', o', e, by omega, h2⟩), hzb, Nat.le_refl _, fun w0 e2 w2 h => ?_⟩
    rw [cutOf, if_neg (by omega)]
    exact h.any

set_option maxRecDepth 100000 in
set_option maxHeartbeats 1600000 in
theorem iCopy_any (a A : Option Addr) (n c m C : Nat) (xs zs : List Int) (w : World) (hn : xs.length = n) (hb : BIn w w.heap.size a xs) (hx : Byt xs) (hl : n ≤ 4194304000) (hz : zs.length = m) (hzb : BIn w w.heap.size A zs) (hzl : m ≤ 4194304000) (hp : 0 < n ∨ 0 < m) :
    Calls Try.prog 35 #[.slice a n c, .slice A m C] w (TwoOf (cutOf n xs (m : Int)) w) := by
  have S := Lib.hid (str_any a n c xs w hn hb hl)
  have D := Lib.hid (fun (W : World) (hB : Fr [] w W) => copied_any A m C zs W hz ((hB.bin hzb (by simp)).lt) hzl)
  have Hn := Lib.hid hn
  have Hz := Lib.hid hz
  have Hx := Lib.hid hx
  have Hp := Lib.hid hp
  have Hl : Lim n := hl
  clear hn hb hl hz hzb hzl hx hp
  go_enter Try.func35, Try.ntmps35
  go_wp2_with fail
  refine S.out.mono ?_
  rintro e w1 ⟨a1, c1, rfl, p1, p2, p3, p4, p5, p6⟩
  go_wp2_with fail
  have q2 : Blk (w1.alloc (.cells #[.slice a1 n c1] 66)) w1.heap.size 66 #[.slice a1 n c1] := Blk.new _ _ _
  have F2 : Fr [] w (w1.alloc (.cells #[.slice a1 n c1] 66)) := (Fr.of_below p5 []).alloc _
  have F1 : Fr [] w1 (w1.alloc (.cells #[.slice a1 n c1] 66)) := (Fr.refl [] w1).alloc _
  have hsz : (w1.alloc (.cells #[.slice a1 n c1] 66)).heap.size = w1.heap.size + 1 := by simp
  generalize w1.alloc (.cells #[.slice a1 n c1] 66) = w2 at *
  refine (D.out w2 F2).mono ?_
  rintro e w3 ⟨a2, c2, rfl, s1, s2, s3, s4, s5, s6⟩
  have F3 : Fr [] w2 w3 := Fr.of_below s5 []
  have q3 := F3.blk q2 (by simp)
  have p3' : BIn w3 w1.heap.size a1 xs := F3.bin (F1.bin p3 (by simp)) (by simp)
  have hz := Hz.out
  have M := Lib.hid (copyBytes_any w.heap.size w2.heap.size w1.heap.size n c1 m c2 a1 a2 xs zs w3 q3 Hn.out p1 p2 Hx.out hz p3' (by omega) p5.size (by have := s5.size; omega) s3 (by have := p5.size; have := s5.size; omega) s6 Hp.out)
  have h3 : Below w.heap.size w w3 := (F2.trans F3 (by simp)).below (by simp) (Nat.le_refl _)
  clear q2 q3 p3' F1 hsz
  go_wp2_with fail
  refine M.out.mono ?_
  rintro e w4 ⟨ok, n4, c4, a4, y1, y2, rfl, t1, t2, t3, t4, t5, t6, t7, t8⟩
  have Hfin := Lib.hid t8
  have Y1 := Lib.hid t3
  have Y2 := Lib.hid t4
  have c0 := t2.one
  have h4 := h3.trans t1
  clear t8 t3 t4
  go_wp2_with fail
  refine (copied_any a4 n4 c4 y1 w4 Y1.out t5 (by have := Hl.out; omega)).mono ?_
  rintro e w5 ⟨a5, c5, rfl, r1, r2, r3, r4, r5, r6⟩
  go_wp2
  go_ret3
  have g1 := Y1.out
  have g2 := Y2.out
  subst g1; subst g2
  exact Hfin.out _ _ _ ⟨_, _, _, _, rfl, s1, s2, r1, r2, (t6.below r5).more r5.size, r3, h4.trans (r5.mono h4.size)⟩
end Go.Proofs.Ytcimjejbakgadaa
