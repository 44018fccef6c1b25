/- Contracts of the smallest functions: copied, str, read, Skip, Empty, Same, behind: what each returns and what it leaves of memory, for all bytes that lie in memory below a block number. -/
import Derived.Test.YtdnepnnkpaoaaaaProg
import Derived.Test.YtdnepnnkpaoaaaaBase
import Derived.WalkKit
import Derived.WalkSpells
import Derived.Lib.Hide
import Derived.Lib.SliceRun
import Derived.Deep.RegionHeld3
import Derived.KernelRfl
import Derived.StillTailTactics
namespace Go.Proofs.Ytdnepnnkpaoaaaa
open Go.RowKit

/-- A region that draws its order, reads, and ends in one store: one walk, in the order of the text. -/
theorem region_tail {P : Program} {id : Nat} {Q : Exit → Act → World → Prop} {a : Act} {w : World} {l : List Oper} (n : Nat) (hm : P.follows .mixedOrders = true) (hB : Region.lexTailB .any l.toArray n = true)
    (h : wpStill P l.toArray w.drew (fun a' => wpList P l.toArray Q (l.drop n) a' w.drew) (l.take n) a) : (Code.region id l.toArray true).wp P Q a w := wp_region_still_tail n hm hB h

theorem u8_info : (Try.prog.info? 5).map (fun i => (i.zero, i.size, i.bytes)) = some (some (.int .u8 0), 1, 1) := by kernel_rfl

/-- What 'copied' leaves: the bytes in a row of its own (none: nil). -/
def CopyPost (w : World) (n : Nat) (xs : List Int) (e : Ending) (w' : World) : Prop :=
  ∃ a c, e = .returned (.slice a n c) ∧ n ≤ c ∧ c ≤ maxLen ∧ BIn w' w'.heap.size a xs ∧ (a = none → xs = [] ∧ c = 0) ∧ Below w.heap.size w w' ∧ OwnB w' w.heap.size 5 (.slice a n c) xs

set_option maxHeartbeats 400000 in
theorem copied_any (a : Option Addr) (n c : Nat) (xs : List Int) (w : World) (hn : xs.length = n) (h : BIn w w.heap.size a xs) (hl : n ≤ 4194304000) :
    Calls Try.prog 39 #[.slice a n c] w (CopyPost w n xs) := by
  obtain ⟨i0, hi0, hz0, hz1, hz2⟩ := info_parts u8_info
  have Hn := Lib.hid hn
  clear hn
  go_enter Try.func39, Try.ntmps39
  go_wp2_with (at_builtin; refine wpList_append_bytes _ rfl _ _ _ rfl w.heap.size 5 i0 _ Try.underlying22 hi0 hz0 hz1 hz2 rfl (.slice none 0 0) [] rfl (OwnB.nil _ _ _) w.heap.size a _ _ xs Hn.out rfl h ?c1 (Nat.le_refl _) ?_)
  case c1 => have := Hn.out; simp; omega
  intro A' c' w' hown hg hat
  go_wp2
  go_ret
  have hn := Hn.out
  subst hn
  obtain ⟨a1, c1, e1, h1, h2, h3, h4⟩ := hown.form
  injection e1 with e1 _ e2
  subst e1; subst e2
  exact ⟨A', c', rfl, h1, h2, hown.bin rfl, h3, (Below.refl _ _).grown hg (Nat.le_refl _) (by simp [Value.ownBlock]), hown⟩

theorem str_any (a : Option Addr) (n c : Nat) (xs : List Int) (w : World) (hn : xs.length = n) (h : BIn w w.heap.size a xs) (hl : n ≤ 4194304000) :
    Calls Try.prog 37 #[.slice a n c] w (CopyPost w n xs) := by
  have Hc := Lib.hid (copied_any a n c xs w hn h hl)
  clear hn h hl
  go_enter Try.func37, Try.ntmps37
  go_wp2_with (go_at_call 39; refine Hc.out.mono ?_; rintro e w' ⟨a', c', rfl, hp⟩)
  go_wp2
  go_ret
  exact ⟨a', c', rfl, hp⟩

/-- string(b) of bytes that lie so. -/
theorem conv_bytes (src : TypeId) (hs : Try.prog.underlying src = some (.slice 5)) (a : Option Addr) (n c : Nat) (xs : List Int) (w : World) (B : Nat) (hn : xs.length = n) (h : BIn w B a xs) :
    (convert src 9 (.slice a n c)).run Try.prog w = .ok (.string (strOfNums xs)) w := by
  by_cases h0 : xs = []
  · subst h0
    simp at hn
    subst hn
    rw [run_convert_bytes_string w src 9 _ _ 0 c hs Try.underlying5 Try.underlying9]
    cases a <;> simp [Conv.bytesToString, loadCells]
    all_goals rfl
  · obtain ⟨b, o, rfl, _, hc⟩ := h (List.length_pos_iff.2 h0)
    exact run_convert_bytes_arg (P := Try.prog) w src 5 hs Try.underlying5 b o n c xs hn (fun i hi => hc i (by omega)) _ Try.underlying9

theorem strOfNums_inj {xs ys : List Int} (hx : Byt xs) (hy : Byt ys) (h : strOfNums xs = strOfNums ys) : xs = ys := by
  have h1 := congrArg (fun s : ByteArray => s.data.toList) h
  simp only [strOfNums_data] at h1
  have key : ∀ (us vs : List Int), Byt us → Byt vs → us.map (fun n => UInt8.ofNat n.toNat) = vs.map (fun n => UInt8.ofNat n.toNat) → us = vs := by
    intro us
    induction us with
    | nil => intro vs _ _ h; cases vs <;> simp_all
    | cons u us ih =>
      intro vs hu hv h
      cases vs with
      | nil => simp at h
      | cons v vs =>
        simp only [List.map_cons, List.cons.injEq] at h
        have hu0 := hu u (by simp)
        have hv0 := hv v (by simp)
        have h2 := congrArg UInt8.toNat h.1
        simp only [UInt8.toNat_ofNat'] at h2
        have h3 : u = v := by omega
        rw [h3, ih vs (fun x hx => hu x (by simp [hx])) (fun x hx => hv x (by simp [hx])) h.2]
  exact key xs ys hx hy h1

theorem strOfNums_beq {xs ys : List Int} (hx : Byt xs) (hy : Byt ys) : ((strOfNums xs).toList == (strOfNums ys).toList) = decide (xs = ys) := by
  rw [ByteArray.toList_eq, ByteArray.toList_eq]
  by_cases h : xs = ys
  · subst h; simp
  · have : (strOfNums xs).data ≠ (strOfNums ys).data := fun e => h (strOfNums_inj hx hy (ByteArray.ext e))
    simp [h, this]

set_option maxHeartbeats 400000 in
theorem same_any (a b : Option Addr) (n c m d : Nat) (xs ys : List Int) (w : World) (B : Nat) (hn : xs.length = n) (hm : ys.length = m) (h : BIn w B a xs) (k : BIn w B b ys) (hx : Byt xs) (hy : Byt ys) :
    Calls Try.prog 15 #[.slice a n c, .slice b m d] w fun e w' => e = .returned (.bool (decide (xs = ys))) ∧ w = w' := by
  have q1 := conv_bytes 22 Try.underlying22 a n c xs w B hn h
  have q2 := conv_bytes 22 Try.underlying22 b m d ys w B hm k
  have Q := Lib.hid (strOfNums_beq hx hy)
  clear hn hm h k hx hy
  go_enter Try.func15, Try.ntmps15
  go_wp2
  go_ret
  rw [← Q.out]
  exact ⟨rfl, rfl⟩
/-- 's == nil' of a slice. -/
theorem nil_eql (t : TypeId) (e : TypeId) (ht : Try.prog.underlying t = some (.slice e)) (w : World) (a : Option Addr) (n c n' c' : Nat) :
    (binOp .eql t (.slice a n c) (.slice none n' c')).run Try.prog w = .ok (.bool a.isNone) w := Lib.run_eql_slice_nil w _ _ a n c n' c' ht
theorem nil_neq (t : TypeId) (e : TypeId) (ht : Try.prog.underlying t = some (.slice e)) (w : World) (a : Option Addr) (n c n' c' : Nat) :
    (binOp .neq t (.slice a n c) (.slice none n' c')).run Try.prog w = .ok (.bool (!a.isNone)) w := run_neq_slice_nil_any w _ _ a n c n' c' ht

/-- 'read' that fails: nil, nothing turns. -/
theorem read_no (g : Nat) (a : Option Addr) (n c : Nat) (k : Int) (w : World) (hg : Blk w g 74 #[.slice a n c]) (hk : k < 0 ∨ (n : Int) < k) :
    Calls Try.prog 91 #[.pointer (some ⟨g, 0, none⟩), .int .i64 k] w fun e w' => e = .returned (.slice none 0 0) ∧ w = w' := by
  have c0 := hg.cell 0
  clear hg
  by_cases h1 : (n : Int) < k
  · go_enter Try.func91, Try.ntmps91
    go_wp2
    go_ret
    exact ⟨rfl, rfl⟩
  · have h2 : k < 0 := by omega
    go_enter Try.func91, Try.ntmps91
    go_wp2
    go_ret
    exact ⟨rfl, rfl⟩

/-- 'read' that goes well. -/
theorem read_yes (g : Nat) (a : Option Addr) (n c k : Nat) (w : World) (hg : Blk w g 74 #[.slice a n c]) (hk : k ≤ n) (hc : n ≤ c) (hm : c ≤ maxLen) :
    Calls Try.prog 91 #[.pointer (some ⟨g, 0, none⟩), .int .i64 k] w fun e w' => e = .returned (.slice a k c) ∧ w' = w.setCell ⟨g, 0, none⟩ (.slice (cutA a c k) (n - k) (c - k)) := by
  have c0 := hg.cell 0
  have f0 := hg.frozen 0
  clear hg
  unfold maxLen at hm
  unfold cutA
  by_cases hck : c = k
  · subst hck
    go_enter Try.func91, Try.ntmps91
    go_wp2
    go_ret
    exact ⟨rfl, by simp⟩
  · go_enter Try.func91, Try.ntmps91
    go_wp2
    go_ret
    exact ⟨rfl, by simp⟩

/-- 's[k:]' of bytes: laid ahead of a walk, so that the address stands under one name. -/
theorem sl_from (a : Option Addr) (n c : Nat) (k : Int) (m : Nat) (hk : k = m) (hn : m ≤ n) (w : World) :
    (Instr.sliceAt 22 (.slice a n c) (some (.int .i64 k)) none none).run Try.prog w = .ok (.slice (cutA a c m) (n - m) (c - m)) w := by
  subst hk
  have ht : Try.prog.underlying 22 = some (.slice (Try.prog.elem 22)) := by kernel_rfl
  have hs : ∀ w, (sizeOf (Try.prog.elem 22)).run Try.prog w = .ok 1 w := fun w => by kernel_rfl
  rw [run_sliceAt_slice w _ _ _ _ _ ht, run_slice_l w _ a n c ht _ _ (by omega) (by omega), hs]
  simp [Result.andThen, sliced, cutA]
end Go.Proofs.Ytdnepnnkpaoaaaa
