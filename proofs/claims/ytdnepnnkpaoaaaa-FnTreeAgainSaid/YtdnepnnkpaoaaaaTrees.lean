/- The contract of the reference's Trees. -/
import Derived.Test.YtdnepnnkpaoaaaaTreeP
import Derived.Test.YtdnepnnkpaoaaaaSpecDer
namespace Go.Proofs.Ytdnepnnkpaoaaaa
open Go.RowKit
set_option linter.unusedVariables false

/-- 's[i:j]' of bytes, laid ahead of a walk. -/
theorem sl_mid (a : Option Addr) (n c : Nat) (i j : Int) (l m : Nat) (hi : i = l) (hj : j = m) (hl : l ≤ m) (hm : m ≤ c) (w : World) :
    (Instr.sliceAt 22 (.slice a n c) (some (.int .i64 i)) (some (.int .i64 j)) none).run Try.prog w = .ok (.slice (cutA a c l) (m - l) (c - l)) w := by
  subst hi; subst hj
  have ht : Try.prog.underlying 22 = some (.slice (Try.prog.elem 22)) := by kernel_rfl
  have hs : ∀ w, (sizeOf (Try.prog.elem 22)).run Try.prog w = .ok 1 w := fun w => by kernel_rfl
  rw [run_sliceAt_slice w _ _ _ _ _ ht, run_slice_lh w _ a n c ht _ _ _ _ (by omega) (by omega) (by omega), hs]
  simp [Result.andThen, sliced, cutA]

theorem and32_all : ∀ x : Fin 256, bits .and .i64 ((x.val : Nat) : Int) 32 = if x.val / 32 % 2 = 0 then 0 else 32 := by decide +kernel
theorem and32 {t : Int} (h0 : 0 ≤ t) (h1 : t < 256) : bits .and .i64 t 32 = if t / 32 % 2 = 0 then 0 else 32 := by
  have := and32_all ⟨t.toNat, by omega⟩
  simp only [Int.toNat_of_nonneg h0] at this
  rw [this]
  by_cases h : t / 32 % 2 = 0
  · rw [if_pos h, if_pos (by omega)]
  · rw [if_neg h, if_neg (by omega)]
def lenV : Value → Nat
  | .slice _ n _ => n
  | _ => 0
/-- A truth is handed back; nothing that was there turns. -/
def Told (b : Bool) (w : World) (e : Ending) (w' : World) : Prop := e = .returned (.bool b) ∧ Below w.heap.size w w'

set_option maxRecDepth 100000 in
set_option maxHeartbeats 1600000 in
theorem trees_any : ∀ (N : Nat) (a : Option Addr) (n c deep : Nat) (xs : List Int) (w : World), n < N → xs.length = n → n ≤ c → c ≤ maxLen → BIn w w.heap.size a xs → Byt xs → n ≤ 4194304000 → deep ≤ 100 →
    Calls Try.prog 20 #[.slice a n c, .int .i64 deep] w (Told (tr deep xs).isSome w) := by
  intro N
  induction N with
  | zero => intro a n c deep xs w h; omega
  | succ N ih =>
    intro a n c deep xs w hN hn hc hm hb hx hl hd
    have IH := Lib.hid ih
    have HN := Lib.hid hN
    have Hn := Lib.hid hn
    have HB := Lib.hid hb
    have Hx := Lib.hid hx
    obtain ⟨r, hr⟩ : ∃ r, r = (tr deep xs).isSome := ⟨_, rfl⟩
    rw [← hr]
    have HR := Lib.hid hr
    clear ih hN hn hb hx hr
    go_enter Try.func20, Try.ntmps20
    go_wp2_with fail
    go_loopw [0] (fun s wr => ∃ a' n' c' xs', s = .slice a' n' c' ∧ n' ≤ n ∧ n' ≤ c' ∧ c' ≤ maxLen ∧ Hid (xs'.length = n') ∧ Hid (BIn wr w.heap.size a' xs') ∧ Hid (Byt xs') ∧ Hid (r = (tr deep xs').isSome) ∧ Hid (Below w.heap.size w wr)) (fun s _ => lenV s)
    case atStart => exact ⟨a, n, c, xs, rfl, Nat.le_refl _, hc, hm, Hn, HB, Hx, HR, Lib.hid (Below.refl _ _)⟩
    case round =>
      obtain ⟨a', n', c', xs', rfl, hn', hc', hm', Hn', HB', Hx', HR', BW⟩ := hrel
      rcases Nat.eq_zero_or_pos n' with h0 | h0
      · subst h0
        go_wp2
        go_ret
        refine ⟨?_, BW.out⟩
        rw [HR'.out, List.eq_nil_of_length_eq_zero Hn'.out, tr_nil]
        rfl
      · have F := Lib.hid (first_any a' n' c' xs' w.heap.size wr Hn'.out hc' HB'.out BW.out.size Hx'.out (by omega))
        have hne := Lib.hid (show xs' ≠ [] by intro h; have := Hn'.out; rw [h] at this; simp at this; omega)
        cases hf : first xs' with
        | none =>
          have E := Lib.hid (firstVal_none hf)
          have E2 := Lib.hid (HR'.out.trans (congrArg Option.isSome (tr_bad deep hne.out hf)))
          clear hf
          go_wp2_with fail
          refine F.out.mono ?_
          rintro e w1 ⟨rfl, b1⟩
          rw [E.out]
          go_wp2_with fail
          go_ret
          exact ⟨by rw [E2.out]; rfl, BW.out.trans ((bel_then b1 (bel_alloc w1 _)).mono BW.out.size)⟩
        | some v =>
          obtain ⟨t, b, k⟩ := v
          have E := Lib.hid (firstVal_some hf)
          rcases Nat.eq_zero_or_pos deep with hd0 | hd0
          · subst hd0
            have E2 := Lib.hid (HR'.out.trans (congrArg Option.isSome (tr_low hne.out)))
            clear hf
            go_wp2_with fail
            refine F.out.mono ?_
            rintro e w1 ⟨rfl, b1⟩
            rw [E.out]
            go_wp2_with fail
            go_ret
            exact ⟨by rw [E2.out]; rfl, BW.out.trans ((bel_then b1 (bel_alloc w1 _)).mono BW.out.size)⟩
          · obtain ⟨f1, f2, f3, f4, f5, _⟩ := first_bounds hf
            rw [Hn'.out] at f3
            have ht : 0 ≤ t ∧ t < 256 := by rw [← f4]; exact Hx'.out.getD 0
            have A := and32 ht.1 ht.2
            have E2 := Lib.hid (HR'.out.trans (tr_isSome deep hf (by omega)))
            have sl := sl_from a' n' c' k k rfl f3
            have hm0 : ((deep : Int) == 0) = false := by simp; omega
            have hm1 : ((deep - 1 : Nat) : Int) = (deep : Int) - 1 := by omega
            have HBr := Lib.hid (fun W (h : Below wr.heap.size wr W) => (HB'.out.below (h.mono BW.out.size)).cut (c := c') (k := k) (by rw [Hn'.out]; exact hc'))
            have Hlr := Lib.hid (show (xs'.drop k).length = n' - k by rw [List.length_drop, Hn'.out])
            by_cases h32 : t / 32 % 2 = 0
            · rw [if_pos h32] at A
              have E3 := Lib.hid (show r = (tr deep (xs'.drop k)).isSome by rw [E2.out]; unfold trK; rw [if_pos h32]; rfl)
              clear hf E2 h32 f4 f5 hm1
              go_wp2_with fail
              refine F.out.mono ?_
              rintro e w1 ⟨rfl, b1⟩
              rw [E.out]
              have b1' := Lib.hid (bel_then b1 (bel_alloc w1 (.cells #[.int .i64 t, .int .i64 b, .int .i64 k] 69)))
              go_wp2_with fail
              go_roundw
              case rel => exact ⟨cutA a' c' k, n' - k, c' - k, xs'.drop k, rfl, by omega, by omega, by omega, Hlr, Lib.hid (HBr.out _ b1'.out), Lib.hid (Hx'.out.drop k), E3, Lib.hid (BW.out.trans (b1'.out.mono BW.out.size))⟩
              case measure => simp only [lenV]; omega
            · rw [if_neg h32] at A
              have E3 := Lib.hid (show r = ((tr (deep - 1) ((xs'.take k).drop b)).isSome && (tr deep (xs'.drop k)).isSome) by rw [E2.out]; unfold trK; rw [if_neg h32])
              have sm := sl_mid a' n' c' b k b k rfl rfl f2 (Nat.le_trans f3 hc')
              have IC := Lib.hid (fun W (h : Below wr.heap.size wr W) => IH.out (cutA a' c' b) (k - b) (c' - b) (deep - 1) ((xs'.take k).drop b) W (by have := HN.out; omega) (by rw [List.length_drop, List.length_take, Hn'.out]; omega) (by omega) (by omega) (((HB'.out.below (h.mono BW.out.size)).take k).cut (by rw [List.length_take, Hn'.out]; omega)).lt ((Hx'.out.take k).drop b) (by omega) (by omega))
              obtain ⟨v, hv⟩ : ∃ v, v = (tr (deep - 1) ((xs'.take k).drop b)).isSome := ⟨_, rfl⟩
              rw [← hv] at E3 IC
              rw [hm1] at IC
              clear hf E2 h32 f4 f5 hv hm1
              go_wp2_with fail
              refine F.out.mono ?_
              rintro e w1 ⟨rfl, b1⟩
              rw [E.out]
              have b1' := Lib.hid (bel_then b1 (bel_alloc w1 (.cells #[.int .i64 t, .int .i64 b, .int .i64 k] 69)))
              go_wp2_with fail
              refine (IC.out _ b1'.out).mono ?_
              rintro e w2 ⟨rfl, b2⟩
              have b2' := Lib.hid (bel_then b1'.out b2)
              have g2 : w2.cell? ⟨w1.heap.size, 2, none⟩ = some (.int .i64 k) := (b2.cell (p := ⟨w1.heap.size, 2, none⟩) (by simp)).trans ((Blk.new w1 69 _).cell 2)
              clear b2
              cases v
              · go_wp2_with fail
                go_ret
                exact ⟨by rw [E3.out]; rfl, BW.out.trans (b2'.out.mono BW.out.size)⟩
              · go_wp2_with fail
                go_roundw
                case rel => exact ⟨cutA a' c' k, n' - k, c' - k, xs'.drop k, rfl, by omega, by omega, by omega, Hlr, Lib.hid (HBr.out _ b2'.out), Lib.hid (Hx'.out.drop k), Lib.hid (by rw [E3.out]; rfl), Lib.hid (BW.out.trans (b2'.out.mono BW.out.size))⟩
                case measure => simp only [lenV]; omega
end Go.Proofs.Ytdnepnnkpaoaaaa
