/- AddASN1ObjectIdentifier of arcs that are none: an error. -/
import Derived.Test.YtdnepnnkpaoaaaaSteps0
namespace Go.Proofs.Ytdnepnnkpaoaaaa
open Go.RowKit
set_option linter.unusedVariables false

set_option maxRecDepth 100000 in
set_option maxHeartbeats 800000 in
theorem clos_oid_bad (K : Kd) (base gc p : Nat) (xs zs : List Int) (off pl : Int) (pa : Bool) (ic : Value) (rb : Option Nat) (a : Option Addr) (n c : Nat) (w : World)
    (hg : Bld K w base gc xs off pl pa ic rb) (hp : Blk w p 73 #[.slice a n c]) (hn : zs.length = n) (hy : IIn w w.heap.size a zs) (hn32 : n ≤ 4194304000) (hok : oidOk zs = false) :
    Calls Try.prog 52 #[.pointer (some ⟨gc, 0, none⟩), .pointer (some ⟨p, 0, none⟩)] w (BadP gc w) := by
  have V := Lib.hid (valid_any a n c zs w hn hy hn32)
  rw [hok] at V
  obtain ⟨v, k, _⟩ := hg
  have c0 : w.cell? ⟨gc, 0, none⟩ = some .nilIface := k.cell 0
  have Hk := Lib.hid k
  have p0 := hp.one
  clear k hp hn hy hok
  go_enter Try.func52, Try.ntmps52
  go_wp2_with fail
  refine V.out.mono ?_
  rintro e w' ⟨rfl, rfl⟩
  go_wp2_with fail
  refine (new_err _ w).mono ?_
  rintro e w1 ⟨u, rfl, f1⟩
  have k1 := f1.blk Hk.out (by simp)
  have d0 : w1.cell? ⟨gc, 0, none⟩ = some .nilIface := k1.cell 0
  have df0 := k1.frozen 0
  have HK1 := Lib.hid k1
  have HF1 := Lib.hid f1
  clear k1 f1
  go_wp2_with fail
  first | go_end0 | refine bodyPost_ret (results_none rfl _ _ _) rfl ?_
  exact ⟨rfl, ⟨_, _, _, _, _, _, _, _, HK1.out.set_ 0 _⟩, (HF1.out.mono (by simp)).set_ (p := ⟨gc, 0, none⟩) (.inl (by simp)) _⟩

theorem gOidBad (K : Kd) (base g off pl : Nat) (pb : Bool) (xs : List Int) (ic : Value) (rb : Option Nat) (ins : Bool) (dep M : Nat) (w : World)
    (hg : Bld K w base g xs off pl pb ic rb) (hfl : Flag w base ic ins) (hop : off + pl ≤ xs.length) (hb : base ≤ w.heap.size) (a : Option Addr) (n c : Nat) (zs : List Int) (hn : zs.length = n) (hy : IIn w w.heap.size a zs) (hya : ∀ b, a = some b → b.block < w.heap.size ∧ b.block ∉ fS g rb ic false) (hs : n ≤ 2000000) (hok : oidOk zs = false)
    (hl : xs.length + 2 ≤ K.lim) (hfx : K.fix = none ∧ M + 4 * (dep + 1) ≤ 16000000 ∧ 16000000 ≤ K.lim) :
    Calls Try.prog 36 #[.pointer (some ⟨g, 0, none⟩), .slice a n c] w (Outc K base g off pl pb ic rb ins (dep + 1) M w none) := by
  refine wOid g a n c w _ Outc.endsF ?_
  have F1 : Fr [] w (w.alloc (.cells #[.slice a n c] 73)) := (Fr.refl [] w).alloc _
  have S1 : (w.alloc (.cells #[.slice a n c] 73)).heap.size = w.heap.size + 1 := by simp
  refine (addASN1 K base g 52 w.heap.size off pl pb 6 xs none ic rb ins dep M _ (hg.keep F1) (hfl.keep0 F1) hop (Nat.le_trans hb F1.size) (by decide) (by decide) (by decide) hl (fun o h => by cases h) (fun _ => hfx) (fun _ _ => by kernel_rfl) ?_).mono fun e w' h => Outc.from_ F1 h
  intro gc rc icc wa fa _ ba fla hba hgc hrc
  have pa := fa.blk (Blk.new w 73 #[.slice a n c]) (fun h => by have := fS_lt hg hfl _ h; omega)
  have hFw : Fr (fS g rb ic false) w wa := (F1.mono (by simp)).trans fa (fun i hi => .inl hi)
  exact (clos_oid_bad K base gc w.heap.size _ zs _ _ _ _ _ a n c wa ba pa hn (hFw.iin' hy (fun b hb => (hya b hb).2)).lt (by omega) hok).mono fun e w' h => h.toS.outc
end Go.Proofs.Ytdnepnnkpaoaaaa
