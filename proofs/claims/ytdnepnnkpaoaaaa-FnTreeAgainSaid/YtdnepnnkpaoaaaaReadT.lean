/- The contract of laws.readTrees. -/
import Derived.Test.YtdnepnnkpaoaaaaTrees
import Derived.Test.YtdnepnnkpaoaaaaImpAnyS
import Derived.Test.YtdnepnnkpaoaaaaOwnI
namespace Go.Proofs.Ytdnepnnkpaoaaaa
open Go.RowKit
set_option linter.unusedVariables false

/-- This holds, and holds whatever is done to blocks below B, to block g and to new ones. -/
def KeepC (B g : Nat) (w : World) (Q : World → Prop) : Prop := ∀ (S : List Nat) (w' : World), (∀ i ∈ S, i < B ∨ i = g) → Fr S w w' → Q w'
theorem KeepC.move {B g g' : Nat} {w w' : World} {Q : World → Prop} (h : KeepC B g w Q) (hf : Fr [g] w w') (hg : g' = g ∨ w.heap.size ≤ g') : KeepC B g' w' Q := fun S w2 hS hF =>
  h (g :: S.filter (· < B)) w2 (fun i hi => by
    rw [List.mem_cons, List.mem_filter] at hi
    rcases hi with rfl | ⟨_, hi⟩
    · exact .inr rfl
    · exact .inl (by simpa using hi)) ((hf.mono (by simp)).trans hF (fun i hi => by
    rcases hS i hi with h1 | rfl
    · exact .inl (by simp [hi, h1])
    · rcases hg with rfl | h1
      · exact .inl (by simp)
      · exact .inr h1))
theorem KeepC.now {B g : Nat} {w : World} {Q : World → Prop} (h : KeepC B g w Q) : Q w := h [] w (by simp) (Fr.refl _ _)
theorem Solid.keepC {B B' g : Nat} {w : World} {Q : World → Prop} (h : Solid B' w Q) (hB : B ≤ B') (hg : g < B') : KeepC B g w Q := fun S w2 hS hF => h S w2 (fun i hi => by rcases hS i hi with h1 | rfl <;> omega) hF

theorem Solid.move' {B : Nat} {w w' : World} {S0 : List Nat} {Q : World → Prop} (h : Solid B w Q) (hf : Fr S0 w w') (h0 : ∀ i ∈ S0, i < B) : Solid B w' Q := fun S w2 hS hF =>
  h (S0 ++ S) w2 (fun i hi => by rcases List.mem_append.1 hi with hi | hi; exact h0 i hi; exact hS i hi) ((hf.mono (by intro i hi; simp [hi])).trans hF (fun i hi => .inl (by simp [hi])))
theorem row_fr {S : List Nat} {w w' : World} {base e s k : Nat} {v : Value} {cs : List Value} (h : w.ownsRow base e s v k cs) (hf : Fr S w w') (hs : ∀ g, v.ownBlock = some g → g ∉ S) : w'.ownsRow base e s v k cs := by
  refine ⟨h.1, h.2.imp id fun ⟨g, cap, cur, h1, h2, h3, h4⟩ => ⟨g, cap, cur, h1, h2, ?_, h4⟩⟩
  rw [hf.block g (Array.getElem?_eq_some_iff.1 h3).1 (hs g (by rw [h1]; rfl))]
  exact h3
/-- A step of bytes in a block of its own. -/
theorem leaf_its {W : World} {h m c : Nat} {a : Option Addr} {xs : List Int} (hb : Blk W h 45 #[.int .i64 6, .int .i64 0, .int .i64 0, .slice a m c, .slice none 0 0, .slice none 0 0]) (hm : xs.length = m) (hc : m ≤ c) (hcm : c ≤ maxLen) (hx : BIn W W.heap.size a xs) (hy : Byt xs) :
    ItsIn W W.heap.size (some ⟨h, 0, none⟩) [.mk 6 0 0 xs [] []] := by
  subst hm
  refine .inr ⟨h, 0, rfl, hb.lt, ?_⟩
  unfold ItsAt
  refine ⟨?_, by unfold ItsAt; trivial⟩
  unfold ItAt
  exact ⟨hb.cell 0, hb.cell 1, hb.cell 2, by omega, ⟨a, c, hb.cell 3, hc, hcm, hx, hy⟩, ⟨none, 0, hb.cell 4, Nat.le_refl _, by simp [maxLen], IIn.nil _ _ _⟩, ⟨none, 0, hb.cell 5, Nat.le_refl _, by simp [maxLen], .inl rfl⟩⟩

/-- What readTrees leaves. -/
def TrPost (w : World) (r : Option (List It)) (e : Ending) (w' : World) : Prop :=
  Below w.heap.size w w' ∧
  match r with
  | some its => ∃ a c, e = .returned (.tuple #[.slice a its.length c, .bool true]) ∧ its.length ≤ c ∧ c ≤ maxLen ∧ Solid w.heap.size w' (fun w2 => ItsIn w2 w2.heap.size a its)
  | none => e = .returned (.tuple #[.slice none 0 0, .bool false])

/-- What holds between two rounds: the row of the steps read so far, and what is left. -/
def InvT (w0 : World) (n : Nat) (vs vo : Value) (R : Option (List It)) (deep : Nat) (wr : World) : Prop :=
  ∃ a' n' c' xs' g cap done cs, vs = .slice a' n' c' ∧ vo = .slice (some ⟨g, 0, none⟩) (List.length done) cap ∧ n' ≤ n ∧ n' ≤ c' ∧ c' ≤ maxLen ∧ xs'.length = n' ∧ Byt xs' ∧ 2 * done.length + n' ≤ n ∧
    wr.ownsRow w0.heap.size 45 6 (.slice (some ⟨g, 0, none⟩) done.length cap) done.length cs ∧ KeepC w0.heap.size g wr (fun w2 => ItCs w2 w2.heap.size done cs) ∧ KeepC 0 g wr (fun w2 => BIn w2 w2.heap.size a' xs') ∧
    Below w0.heap.size w0 wr ∧ R = (tr deep xs').map (fun r => done ++ r)

theorem InvT.ended {w0 : World} {g cap dn deep : Nat} {R : Option (List It)} {wr : World} {done : List It} {cs : List Value} (hdn : dn = done.length) (hrow : wr.ownsRow w0.heap.size 45 6 (.slice (some ⟨g, 0, none⟩) dn cap) dn cs) (hK : KeepC w0.heap.size g wr (fun w2 => ItCs w2 w2.heap.size done cs))
    (hb : Below w0.heap.size w0 wr) (hR : R = (tr deep []).map (fun r => done ++ r)) : TrPost w0 R (.returned (.tuple #[.slice (some ⟨g, 0, none⟩) dn cap, .bool true])) wr := by
  subst hdn
  obtain ⟨_, h1, h2⟩ := row_len hrow
  refine ⟨hb, ?_⟩
  rw [hR, tr_nil]
  simp only [Option.map_some, List.append_nil]
  refine ⟨_, _, rfl, h1, h2, fun S W hS hF => ?_⟩
  have hg : g ∉ S := fun h => by have := (World.ownsRow.lt hrow g rfl).1; have := hS g h; omega
  exact row_its (row_fr hrow hF (fun g' hg' => by simp [Value.ownBlock] at hg'; subst hg'; exact hg)) (hK S W (fun i hi => .inl (hS i hi)) hF) (Nat.le_refl _)

theorem InvT.next {w0 wr u w3 : World} {n g dn deep mr c2 c3 ck nk : Nat} {R : Option (List It)} {done ks : List It} {cs : List Value} {xs rest : List Int} {t : Int} {ak a2 A3 : Option Addr} (hdn : dn = done.length)
    (hK : KeepC w0.heap.size g wr (fun w2 => ItCs w2 w2.heap.size done cs)) (hu : Fr [] wr u) (hb : Below w0.heap.size w0 wr) (hkl : nk = ks.length) (hck : nk ≤ ck) (hcm : ck ≤ maxLen)
    (hk : KeepC w0.heap.size g u (fun w2 => ItsIn w2 w2.heap.size ak ks)) (hs : KeepC 0 g u (fun w2 => BIn w2 w2.heap.size a2 rest)) (hml : mr = rest.length) (hmc : mr ≤ c2) (hmm : c2 ≤ maxLen) (hy : Byt rest) (hn : 2 * (dn + 1) + mr ≤ n)
    (hg : w0.heap.size ≤ g) (own3 : w3.ownsRow w0.heap.size 45 6 (.slice A3 (dn + 1) c3) (dn + 1) (cs ++ [.int .i64 11, .int .i64 0, .int .i64 t, .slice none 0 0, .slice none 0 0, .slice ak nk ck])) (hg3 : u.grownBy w3 (some g))
    (hat : (Value.slice A3 (dn + 1) c3).ownBlock = some g ∨ (Value.slice A3 (dn + 1) c3).ownBlock = some u.heap.size)
    (hR : R = (tr deep xs).map (fun r => done ++ r)) (ht : tr deep xs = (tr deep rest).map (fun r => It.mk 11 0 t [] [] ks :: r)) :
    InvT w0 n (.slice a2 mr c2) (.slice A3 (dn + 1) c3) R deep w3 := by
  subst hdn hkl hml
  obtain ⟨g', rfl⟩ : ∃ g', A3 = some ⟨g', 0, none⟩ := by
    rcases own3.2 with ⟨_, h⟩ | ⟨g', cap', cur, h, _⟩
    · omega
    · injection h with h; exact ⟨g', h⟩
  have hg' : g' = g ∨ u.heap.size ≤ g' := by
    rcases hat with h | h
    · left; simpa [Value.ownBlock] using h
    · right; simp [Value.ownBlock] at h; omega
  have hfg : Fr [g] u w3 := (Fr.refl [g] u).grown hg3 (fun k hk => .inl (by injection hk with hk; simp [hk]))
  have hwg : Fr [g] wr w3 := (hu.mono (by simp)).trans hfg (fun i hi => .inl hi)
  have hsz := hu.size
  have k1 := hK.move hwg (show g' = g ∨ wr.heap.size ≤ g' by omega)
  have k2 := hk.move hfg hg'
  have k3 := hs.move hfg hg'
  have hl : (done ++ [It.mk 11 0 t [] [] ks]).length = done.length + 1 := by simp
  refine ⟨a2, rest.length, c2, rest, g', c3, done ++ [It.mk 11 0 t [] [] ks], _, rfl, by rw [hl], by omega, hmc, hmm, rfl, hy, by rw [hl]; exact hn, by rw [hl]; exact own3, fun S W hS hF => ?_, k3, hb.trans (hwg.below (by simp; exact hg) hb.size), ?_⟩
  · refine ItCs.append ?_ (k1 S W hS hF)
    exact ItCs.single ⟨by omega, none, 0, none, 0, ak, ck, rfl, ⟨Nat.le_refl _, by simp [maxLen], BIn.nil _ _ _, Byt.nil⟩, ⟨Nat.le_refl _, by simp [maxLen], IIn.nil _ _ _⟩, ⟨hck, hcm, k2 S W hS hF⟩⟩
  · rw [hR, ht, Option.map_map]
    congr 1
    funext r
    simp

set_option maxRecDepth 100000 in
set_option maxHeartbeats 3200000 in
theorem readTrees_any : ∀ (N : Nat) (a : Option Addr) (n c deep : Nat) (xs : List Int) (w : World), n < N → xs.length = n → n ≤ c → c ≤ maxLen → BIn w w.heap.size a xs → Byt xs → n ≤ 100000 → deep ≤ 100 →
    Calls Try.prog 19 #[.slice a n c, .int .i64 deep] w (TrPost w (tr deep xs)) := by
  intro N
  induction N with
  | zero => intro a n c deep xs w h; omega
  | succ N ih =>
    intro a n c deep xs w hN hn hc hm hb hx hl hd
    obtain ⟨i0, z0, hi0, hz0, hz1, hz2, hz3⟩ := item_parts
    have IH := Lib.hid ih
    have HN := Lib.hid hN
    have Hn := Lib.hid hn
    have HB := Lib.hid hb
    have Hx := Lib.hid hx
    obtain ⟨R, hR⟩ : ∃ R, R = tr deep xs := ⟨_, rfl⟩
    rw [← hR]
    have HR := Lib.hid hR
    obtain ⟨w1, hw1⟩ : ∃ w1, w1 = w.alloc (.cells #[] 45) := ⟨_, rfl⟩
    have I0 := Lib.hid (show InvT w n (.slice a n c) (.slice (some ⟨w.heap.size, 0, none⟩) 0 0) R deep w1 from
      ⟨a, n, c, xs, w.heap.size, 0, [], [], rfl, rfl, Nat.le_refl _, hc, hm, hn, hx, by simp, by rw [hw1]; exact World.ownsRow_made w #[] 0 (Nat.le_refl _) (by simp [maxLen]) rfl, fun _ _ _ _ => rfl,
        fun S w2 hS hF => ((by rw [hw1] at hF; exact (((Fr.refl [w.heap.size] w).alloc _).trans hF (fun i hi => by rcases hS i hi with h | h; omega; simp [h])) : Fr [w.heap.size] w w2).bin hb (by simp)).lt,
        by rw [hw1]; exact bel_alloc w _, by rw [hR]; simp⟩)
    have HW1 := Lib.hid hw1
    clear ih hN hn hb hx hR hw1
    go_enter Try.func19, Try.ntmps19
    go_wp2_with fail
    go_loopw [0, 6] (fun s o wr => Hid (InvT w n s o R deep wr)) (fun s _ _ => lenV s)
    case atStart => rw [HW1.out] at I0; exact I0
    case round =>
      obtain ⟨a', n', c', xs', g, cap, done, cs, rfl, rfl, hn', hc', hm', hl', hx', hd2, hrow, hK, hS, hB, hR'⟩ := hrel.out
      have Hn' := Lib.hid hl'
      have Hx' := Lib.hid hx'
      obtain ⟨dn, hdn⟩ : ∃ dn, dn = done.length := ⟨_, rfl⟩
      have Hdn := Lib.hid hdn
      rw [← hdn] at hd2 hrow ⊢
      have Hrow := Lib.hid hrow
      have Hg := Lib.hid (World.ownsRow.lt hrow g rfl)
      have HK := Lib.hid hK
      have HS := Lib.hid hS
      have BW := Lib.hid hB
      have HR' := Lib.hid hR'
      have Hd2 := Lib.hid hd2
      clear hrel hl' hx' hrow hK hS hB hR' hdn hd2
      rcases Nat.eq_zero_or_pos n' with h0 | h0
      · subst h0
        go_wp2_with fail
        go_ret2
        have hR' := HR'.out
        rw [List.eq_nil_of_length_eq_zero Hn'.out] at hR'
        exact InvT.ended Hdn.out Hrow.out HK.out BW.out hR'
      · have F := Lib.hid (iReadAny_any a' n' c' xs' wr Hn'.out HS.out.now Hx'.out (by omega))
        have hne := Lib.hid (show xs' ≠ [] by intro h; have := Hn'.out; rw [h] at this; simp at this; omega)
        cases hf : first xs' with
        | none =>
          have E2 := Lib.hid (HR'.out.trans (congrArg (Option.map (fun r => done ++ r)) (tr_bad deep hne.out hf)))
          have Hf := Lib.hid hf
          clear hf
          go_wp2_with fail
          refine F.out.mono ?_
          intro e w2 hq
          unfold AnyOf at hq
          rw [Hf.out] at hq
          obtain ⟨v1, v2, v3, rfl, b2⟩ := hq
          go_wp2_with fail
          go_ret2
          refine ⟨BW.out.trans (b2.mono BW.out.size), ?_⟩
          rw [E2.out]
          exact rfl
        | some v =>
          obtain ⟨t, b, k⟩ := v
          obtain ⟨f1, f2, f3, f4, f5, _⟩ := first_bounds hf
          rw [Hn'.out] at f3
          have ht : 0 ≤ t ∧ t < 256 := by rw [← f4]; exact Hx'.out.getD 0
          have A := and32 ht.1 ht.2
          have Hf := Lib.hid hf
          obtain ⟨out, hout⟩ : ∃ out, out = (xs'.take k).drop b := ⟨_, rfl⟩
          obtain ⟨rest, hrest⟩ : ∃ rest, rest = xs'.drop k := ⟨_, rfl⟩
          obtain ⟨mo, hmo⟩ : ∃ mo, mo = out.length := ⟨_, rfl⟩
          obtain ⟨mr, hmr⟩ : ∃ mr, mr = rest.length := ⟨_, rfl⟩
          have hmo' : mo = k - b := by rw [hmo, hout, List.length_drop, List.length_take, Hn'.out]; omega
          have hmr' : mr = n' - k := by rw [hmr, hrest, List.length_drop, Hn'.out]
          have Hyo := Lib.hid (show Byt out by rw [hout]; exact (Hx'.out.take k).drop b)
          have Hyr := Lib.hid (show Byt rest by rw [hrest]; exact Hx'.out.drop k)
          have HF := Lib.hid (show ∀ e w2, AnyOf xs' wr e w2 → AnyYes wr out t rest true e w2 from fun e w2 hq => by unfold AnyOf at hq; rw [Hf.out] at hq; rw [hout, hrest]; exact hq)
          have Hmo := Lib.hid hmo
          have Hmr := Lib.hid hmr
          have Hmo2 := Lib.hid hmo'
          have Hmr2 := Lib.hid hmr'
          clear hmo' hmr'
          rcases Nat.eq_zero_or_pos deep with hd0 | hd0
          · subst hd0
            have E2 := Lib.hid (HR'.out.trans (congrArg (Option.map (fun r => done ++ r)) (tr_low hne.out)))
            clear hf f4 f5 A hout hrest hmo hmr
            go_wp2_with fail
            refine F.out.mono ?_
            intro e w2 hq
            obtain ⟨a1, c1, a2, c2, rfl, l1, m1, l2, m2, q1, q2, b2⟩ := HF.out _ _ hq
            clear hq
            go_wp2_with fail
            go_ret2
            refine ⟨BW.out.trans (b2.mono BW.out.size), ?_⟩
            rw [E2.out]
            exact rfl
          · have E2 := tr_step deep hf (by omega)
            rw [← hout, ← hrest] at E2
            have hm0 : ((deep : Int) == 0) = false := by simp; omega
            have hm1 : ((deep - 1 : Nat) : Int) = (deep : Int) - 1 := by omega
            by_cases h32 : t / 32 % 2 = 0
            · rw [if_pos h32] at A
              have E3 := Lib.hid (show tr deep xs' = (tr deep rest).map (fun r => It.mk 11 0 t [] [] [.mk 6 0 0 out [] []] :: r) by rw [E2]; unfold trK; rw [if_pos h32]; rfl)
              clear hf f4 f5 hout hrest hmo hmr E2 h32 hm1
              go_wp2_with fail
              refine F.out.mono ?_
              intro e w2 hq
              obtain ⟨a1, c1, a2, c2, rfl, l1, m1, l2, m2, q1, q2, b2⟩ := HF.out _ _ hq
              rw [← Hmo.out, ← Hmr.out]
              rw [← Hmo.out] at l1
              rw [← Hmr.out] at l2
              clear hq
              have hz2' : w.heap.size ≤ w2.heap.size := Nat.le_trans BW.out.size b2.size
              have B2 := Lib.hid b2
              obtain ⟨X, hX⟩ : ∃ X : Array Value, X = #[.int .i64 11, .int .i64 0, .int .i64 t, .slice none 0 0, .slice none 0 0, .slice (some ⟨w2.heap.size + 1, 0, none⟩) 1 1] := ⟨_, rfl⟩
              obtain ⟨u0, hu0⟩ : ∃ u0, u0 = (w2.alloc (.cells X 45)).alloc (.cells #[.int .i64 6, .int .i64 0, .int .i64 0, .slice a1 mo c1, .slice none 0 0, .slice none 0 0] 45) := ⟨_, rfl⟩
              obtain ⟨u, hu⟩ : ∃ u, u = u0.alloc (.cells X 45) := ⟨_, rfl⟩
              have F2 : Fr [] w2 u0 := by rw [hu0]; exact ((Fr.refl [] w2).alloc _).alloc _
              have F3 : Fr [] w2 u := by rw [hu]; exact F2.alloc _
              have FU : Fr [] wr u := (Fr.of_below b2 []).trans F3 (by simp)
              have hsu0 : u0.heap.size = w2.heap.size + 1 + 1 := by rw [hu0]; simp
              have hL : Blk u (w2.heap.size + 1) 45 #[.int .i64 6, .int .i64 0, .int .i64 0, .slice a1 mo c1, .slice none 0 0, .slice none 0 0] := by rw [hu, hu0]; exact (Blk.new' (by simp) _ _).alloc _
              have hKids := Lib.hid (show KeepC w.heap.size g u (fun W => ItsIn W W.heap.size (some ⟨w2.heap.size + 1, 0, none⟩) [.mk 6 0 0 out [] []]) from fun S W hS hF =>
                leaf_its (hF.blk hL (fun h => by rcases hS _ h with h | h <;> have := Hg.out <;> have := b2.size <;> omega)) Hmo.out.symm l1 m1 ((q1.move F3).keepC (B := w.heap.size) (g := g) BW.out.size (by have := Hg.out; omega) S W hS hF) Hyo.out)
              have hRest := Lib.hid (show KeepC 0 g u (fun W => BIn W W.heap.size a2 rest) from (q2.move F3).keepC (Nat.zero_le _) Hg.out.2)
              have RowU := Lib.hid (row_fr Hrow.out FU (by simp))
              have SrcU := Lib.hid (show 0 < 1 → ∃ bb o, (some ⟨w2.heap.size + 1 + 1, 0, none⟩ : Option Addr) = some ⟨bb, o, none⟩ ∧ ∀ (j : Nat) v, X.toList[j]? = some v → u.cell? ⟨bb, o + j, none⟩ = some v from fun _ => ⟨w2.heap.size + 1 + 1, 0, rfl, fun j v hv => by rw [hu, Nat.zero_add, ← hsu0, (Blk.new u0 45 X).cell j]; simpa using hv⟩)
              have OneU := Lib.hid (show ∀ v ∈ X.toList, v.oneCell' = true by rw [hX]; intro v hv; simp only [List.mem_cons, List.not_mem_nil, or_false] at hv; rcases hv with rfl | rfl | rfl | rfl | rfl | rfl <;> rfl)
              have LenU := Lib.hid (show X.toList.length = 1 * 6 by rw [hX]; rfl)
              have HFU := Lib.hid FU
              have hmx := Lib.hid (show dn + 1 ≤ maxLen by have := Hd2.out; simp only [maxLen]; omega)
              have hby := Lib.hid (show (dn + 1) * 96 ≤ 140737488355328 by have := Hd2.out; omega)
              have hbu := Lib.hid (show w.heap.size ≤ u.heap.size from Nat.le_trans hz2' F3.size)
              have hsu : u.heap.size = w2.heap.size + 1 + 1 + 1 := by rw [hu]; simp [hsu0]
              have HSu := Lib.hid hsu
              clear F2 F3 FU hsu hL q1 q2 hz2' b2
              subst hu
              clear hsu0
              subst hu0
              subst hX
              go_wp2_with (at_builtin; go_must (refine wpList_append_row _ rfl (.tmp 48) (.tmp 50) _ rfl w.heap.size 45 i0 z0 6 96 Try.underlying23 hi0 hz0 hz1 hz2 hz3 (by omega) (.slice (some ⟨g, 0, none⟩) dn cap) dn cs rfl RowU.out (some ⟨w2.heap.size + 1 + 1, 0, none⟩) 1 1 _ rfl LenU.out SrcU.out OneU.out hmx.out hby.out hbu.out ?_))
              intro A3 c3 w3 own3 hg3 hat3
              have hd3 := Lib.hid (show 2 * (dn + 1) + mr ≤ n by have := Hd2.out; have := Hmr2.out; omega)
              have INV := Lib.hid (InvT.next (deep := deep) (n := n) (R := R) (done := done) (ks := [.mk 6 0 0 out [] []]) (xs := xs') (rest := rest) (t := t) (ak := some ⟨w2.heap.size + 1, 0, none⟩) (a2 := a2) (mr := mr) (c2 := c2) Hdn.out HK.out HFU.out BW.out rfl (Nat.le_refl _) (by simp [maxLen]) hKids.out hRest.out Hmr.out l2 m2 Hyr.out hd3.out Hg.out.1 own3 hg3 (by rw [HSu.out]; exact hat3) HR'.out E3.out)
              have hms := Lib.hid (show mr < n' by have := Hmr2.out; omega)
              clear own3 hg3 hat3 RowU SrcU OneU LenU hKids hRest hd3 HFU hmx hby hbu HSu
              go_wp2_with fail
              go_roundw
              case rel => exact INV
              case measure => simp only [lenV]; exact hms.out
            · rw [if_neg h32] at A
              have E3 := Lib.hid (show tr deep xs' = (tr (deep - 1) out).bind fun ks => (tr deep rest).map (fun r => It.mk 11 0 t [] [] ks :: r) by rw [E2]; unfold trK; rw [if_neg h32])
              have IC := Lib.hid (fun (a1 : Option Addr) (c1 : Nat) (W : World) (h1 : mo ≤ c1) (h2 : c1 ≤ maxLen) (h3 : BIn W W.heap.size a1 out) => IH.out a1 mo c1 (deep - 1) out W (by have := HN.out; have := Hmo2.out; omega) Hmo.out.symm h1 h2 h3 Hyo.out (by have := Hmo2.out; omega) (by omega))
              obtain ⟨Rk, hRk⟩ : ∃ Rk, Rk = tr (deep - 1) out := ⟨_, rfl⟩
              rw [← hRk] at E3 IC
              rw [hm1] at IC
              clear hf f4 f5 hout hrest hmo hmr E2 h32 hm1 hRk
              go_wp2_with fail
              refine F.out.mono ?_
              intro e w2 hq
              obtain ⟨a1, c1, a2, c2, rfl, l1, m1, l2, m2, q1, q2, b2⟩ := HF.out _ _ hq
              rw [← Hmo.out, ← Hmr.out]
              rw [← Hmo.out] at l1
              rw [← Hmr.out] at l2
              clear hq
              obtain ⟨w3, hw3⟩ : ∃ w3, w3 = w2.alloc (.cells #[.int .i64 11, .int .i64 0, .int .i64 t, .slice none 0 0, .slice none 0 0, .slice none 0 0] 45) := ⟨_, rfl⟩
              have F3 : Fr [] w2 w3 := by rw [hw3]; exact (Fr.refl [] w2).alloc _
              have hs3 : w3.heap.size = w2.heap.size + 1 := by rw [hw3]; simp
              have X3 : Blk w3 w2.heap.size 45 #[.int .i64 11, .int .i64 0, .int .i64 t, .slice none 0 0, .slice none 0 0, .slice none 0 0] := by rw [hw3]; exact Blk.new _ _ _
              have TC := Lib.hid (IC.out a1 c1 w3 l1 m1 (q1.move F3).now)
              have Q2 := Lib.hid q2
              have HF3 := Lib.hid F3
              have HBB := Lib.hid b2
              have HS3 := Lib.hid hs3
              have HX3 := Lib.hid X3
              have HB2 := Lib.hid b2.size
              have HW3 := Lib.hid hw3
              clear hw3 F3 hs3 X3 q1 q2 b2 l1 m1
              go_wp2_with fail
              rw [← HW3.out]
              refine TC.out.mono ?_
              rintro e w4 ⟨b4, hq⟩
              have X4 := HX3.out.below b4 (by have := HS3.out; omega)
              have g0 := X4.cell 0
              have g1 := X4.cell 1
              have g2 := X4.cell 2
              have g3 := X4.cell 3
              have g4 := X4.cell 4
              have g5 := X4.cell 5
              have fz5 := X4.frozen 5
              have F4 := HF3.out.trans (Fr.of_below b4 []) (by simp)
              have HF4 := Lib.hid F4
              have HB4 := Lib.hid b4
              cases Rk with
              | none =>
                obtain rfl := hq
                have E4 := Lib.hid (HR'.out.trans (congrArg (Option.map (fun r => done ++ r)) E3.out))
                have BW4 := Lib.hid (BW.out.trans (((Fr.of_below HBB.out []).trans (HF4.out.set_ (p := ⟨w2.heap.size, 5, none⟩) (.inr (Nat.le_refl _)) (.slice none 0 0)) (by simp)).bel.mono BW.out.size))
                clear X4 F4 b4
                go_wp2_with fail
                go_ret2
                refine ⟨BW4.out, ?_⟩
                rw [E4.out]
                exact rfl
              | some ks =>
                obtain ⟨ak, ck, rfl, lk, mk, sk⟩ := hq
                obtain ⟨nk, hnk⟩ : ∃ nk, nk = ks.length := ⟨_, rfl⟩
                rw [← hnk] at lk ⊢
                have Hnk := Lib.hid hnk
                have E4 := Lib.hid (show tr deep xs' = (tr deep rest).map (fun r => It.mk 11 0 t [] [] ks :: r) by rw [E3.out]; rfl)
                obtain ⟨X, hX⟩ : ∃ X : Array Value, X = #[.int .i64 11, .int .i64 0, .int .i64 t, .slice none 0 0, .slice none 0 0, .slice ak nk ck] := ⟨_, rfl⟩
                obtain ⟨u0, hu0⟩ : ∃ u0, u0 = w4.setCell ⟨w2.heap.size, 5, none⟩ (.slice ak nk ck) := ⟨_, rfl⟩
                obtain ⟨u, hu⟩ : ∃ u, u = u0.alloc (.cells X 45) := ⟨_, rfl⟩
                have F2u : Fr [] w2 u := by rw [hu, hu0]; exact (F4.set_ (p := ⟨w2.heap.size, 5, none⟩) (.inr (Nat.le_refl _)) _).alloc _
                have F4u : Fr [w2.heap.size] w4 u := by rw [hu, hu0]; exact ((Fr.refl _ w4).set_ (p := ⟨w2.heap.size, 5, none⟩) (.inl (by simp)) _).alloc _
                have FU : Fr [] wr u := (Fr.of_below HBB.out []).trans F2u (by simp)
                have hsu0 : u0.heap.size = w4.heap.size := by rw [hu0]; simp [World.setCell]
                have hsu : u.heap.size = w4.heap.size + 1 := by rw [hu]; simp [hsu0]
                have hKids := Lib.hid (show KeepC w.heap.size g u (fun W => ItsIn W W.heap.size ak ks) from (sk.move' F4u (by have := HS3.out; simp; omega)).keepC (by have := BW.out.size; have := HB2.out; have := HS3.out; omega) (by have := Hg.out; have := HB2.out; have := HS3.out; omega))
                have hRest := Lib.hid (show KeepC 0 g u (fun W => BIn W W.heap.size a2 rest) from (Q2.out.move F2u).keepC (Nat.zero_le _) Hg.out.2)
                have RowU := Lib.hid (row_fr Hrow.out FU (by simp))
                have SrcU := Lib.hid (show 0 < 1 → ∃ bb o, (some ⟨w4.heap.size, 0, none⟩ : Option Addr) = some ⟨bb, o, none⟩ ∧ ∀ (j : Nat) v, X.toList[j]? = some v → u.cell? ⟨bb, o + j, none⟩ = some v from fun _ => ⟨w4.heap.size, 0, rfl, fun j v hv => by rw [hu, Nat.zero_add, ← hsu0, (Blk.new u0 45 X).cell j]; simpa using hv⟩)
                have OneU := Lib.hid (show ∀ v ∈ X.toList, v.oneCell' = true by rw [hX]; intro v hv; simp only [List.mem_cons, List.not_mem_nil, or_false] at hv; rcases hv with rfl | rfl | rfl | rfl | rfl | rfl <;> rfl)
                have LenU := Lib.hid (show X.toList.length = 1 * 6 by rw [hX]; rfl)
                have HFU := Lib.hid FU
                have hmx := Lib.hid (show dn + 1 ≤ maxLen by have := Hd2.out; simp only [maxLen]; omega)
                have hby := Lib.hid (show (dn + 1) * 96 ≤ 140737488355328 by have := Hd2.out; omega)
                have hbu := Lib.hid (show w.heap.size ≤ u.heap.size from Nat.le_trans BW.out.size FU.size)
                have HSu := Lib.hid hsu
                clear F2u F4u FU hsu sk X4 F4 b4 hnk
                subst hu
                clear hsu0
                subst hu0
                subst hX
                go_wp2_with (at_builtin; go_must (refine wpList_append_row _ rfl (.tmp 48) (.tmp 50) _ rfl w.heap.size 45 i0 z0 6 96 Try.underlying23 hi0 hz0 hz1 hz2 hz3 (by omega) (.slice (some ⟨g, 0, none⟩) dn cap) dn cs rfl RowU.out (some ⟨w4.heap.size, 0, none⟩) 1 1 _ rfl LenU.out SrcU.out OneU.out hmx.out hby.out hbu.out ?_))
                intro A3 c3 w5 own3 hg3 hat3
                have hd3 := Lib.hid (show 2 * (dn + 1) + mr ≤ n by have := Hd2.out; have := Hmr2.out; omega)
                have INV := Lib.hid (InvT.next (deep := deep) (n := n) (R := R) (done := done) (ks := ks) (xs := xs') (rest := rest) (t := t) (ak := ak) (a2 := a2) (mr := mr) (c2 := c2) Hdn.out HK.out HFU.out BW.out Hnk.out lk mk hKids.out hRest.out Hmr.out l2 m2 Hyr.out hd3.out Hg.out.1 own3 hg3 (by rw [HSu.out]; exact hat3) HR'.out E4.out)
                have hms := Lib.hid (show mr < n' by have := Hmr2.out; omega)
                clear own3 hg3 hat3 RowU SrcU OneU LenU hKids hRest hd3 HFU hmx hby hbu HSu
                go_wp2_with fail
                go_roundw
                case rel => exact INV
                case measure => simp only [lenV]; exact hms.out
end Go.Proofs.Ytdnepnnkpaoaaaa
