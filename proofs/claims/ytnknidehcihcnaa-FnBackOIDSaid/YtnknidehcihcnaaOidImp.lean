/- The contract of impl.ReadOID, where there is one. -/
import Derived.Test.YtnknidehcihcnaaOidRd2
import Derived.Test.YtnknidehcihcnaaGIntA
import Derived.Deep.RegionLaw
namespace Go.Proofs.Ytnknidehcihcnaa
open Go.RowKit
set_option linter.unusedVariables false

/-- A call of a Go function as one step of a region that draws. -/
theorem step_go_call {P : Program} {ops : Array Oper} {o : Oper} {a : Act} {w : World} {K : Act → World → Prop} {Q : Exit → Act → World → Prop} {E : Prop} (hgd : o.guard = none) {f : FuncId} {args : Array Value}
    (hx : (execOp a.eval o).run P w = .ok (.enter f args) w) {R : Ending → World → Prop} (hc : Calls P f args w R) (hk : ∀ e w', R e w' → ∃ v, e = .returned v ∧ K (a.put o.dst v) w') :
    if Region.wanted o (yielded ops a.tmps) = true then Oper.wp P o a w K Q else E := by
  have hw : Region.wanted o (yielded ops a.tmps) = true := by simp [Region.wanted, hgd]
  rw [if_pos hw]
  unfold Oper.wp
  rw [hx]
  refine hc.mono fun e w' h => ?_
  obtain ⟨v, rfl, hv⟩ := hk e w' h
  exact hv

theorem append_tx {P : Program} {t tx ty e e' : TypeId} (a0 : Option Addr) (n0 c0 : Nat) (x : Value) (w : World) {i : TypeInfo} (hi : P.info? e = some i) (ht : P.underlying t = some (.slice e)) (hx : P.underlying tx = some (.slice e')) :
    (Builtin.append_ #[t, tx] ty #[.slice a0 n0 c0, x]).run P w = (Builtin.append_ #[t, t] ty #[.slice a0 n0 c0, x]).run P w := by
  simp [Builtin.append_, run_underlying ht, run_underlying hx, sizeOf, typeInfo, hi]
theorem step_append_ints_x {P : Program} (w : World) {ops : Array Oper} {o : Oper} {a : Act} {K : Act → World → Prop} {Q : Exit → Act → World → Prop} {E : Prop} (hgd : o.guard = none) (s x : Operand) (t tx : TypeId)
    (ho : o.op = .call { callee := .builtin .append, args := #[s, x], argTypes := #[t, tx] })
    (base : Nat) (e : TypeId) (i : TypeInfo) (z : Value) (ht : P.underlying t = some (.slice e)) (htx : P.underlying tx = some (.slice e)) (hi : P.info? e = some i) (hz : i.zero = some z)
    (hsize : i.size = 1) (hby : i.bytes = 8) (hzs : z.cells.size = 1)
    (v : Value) (xs : List Int) (hs : a.eval s = v) (hown : OwnI w base e v xs)
    (B : Nat) (A : Option Addr) (m c : Nat) (ys : List Int) (hm : ys.length = m) (hx : a.eval x = .slice A m c) (hr : IIn w B A ys)
    (h63 : xs.length + ys.length ≤ 17592186044416) (hbase : base ≤ w.heap.size)
    (h : ∀ A' c' w', OwnI w' base e (.slice A' (xs.length + m) c') (xs ++ ys) → w.grownBy w' v.ownBlock → K (a.put o.dst (.slice A' (xs.length + m) c')) w') :
    if Region.wanted o (yielded ops a.tmps) = true then Oper.wp P o a w K Q else E := by
  have hw : Region.wanted o (yielded ops a.tmps) = true := by simp [Region.wanted, hgd]
  rw [if_pos hw]
  obtain ⟨v', w', hrun, h2, h3, h4⟩ := run_append_ints (P := P) w base t o.type e i z ht hi hz hsize hby hzs v xs hown B A m c ys hm hr h63 hbase
  obtain ⟨A', c', rfl, _⟩ := h2.form
  obtain ⟨av, cv, rfl, _⟩ := hown.form
  have hrun' := (append_tx (P := P) (ty := o.type) av xs.length cv (.slice A m c) w hi ht htx).trans hrun
  unfold Oper.wp execOp
  simp only [ho, resolve, invoke, builtin, Sem.run_bind, Sem.run_pure, Result.andThen_ok, List.map_toArray, List.map_cons, List.map_nil, hs, hx, hrun']
  have hl : (xs ++ ys).length = xs.length + m := by rw [List.length_append, hm]
  rw [hl] at h2 ⊢
  exact h A' c' w' h2 h3

/-- Arcs, what is left, and true. -/
def OidPost (w : World) (l : List Int) (rest : List Int) (e : Ending) (w' : World) : Prop :=
  ∃ a c b d, e = .returned (.tuple #[.slice a l.length c, .slice b rest.length d, .bool true]) ∧ IIn w' w'.heap.size a l ∧ BIn w' w'.heap.size b rest ∧ Below w.heap.size w w'

theorem oid_ret {a b : Option Addr} {k k2 c d : Nat} {l rest : List Int} (h1 : l.length = k) (h2 : rest.length = k2) : Ending.returned (.tuple #[.slice a k c, .slice b k2 d, .bool true]) = .returned (.tuple #[.slice a l.length c, .slice b rest.length d, .bool true]) := by rw [h1, h2]
set_option maxRecDepth 100000 in
set_option maxHeartbeats 3200000 in
theorem iReadOID_yes (a : Option Addr) (n c : Nat) (xs out rest : List Int) (l : List Nat) (w : World) (hn : xs.length = n) (hb : BIn w w.heap.size a xs) (hx : Byt xs) (hl : n ≤ 4194304000) (hf : firstOf xs 6 = some (out, rest)) (hol : out.length ≤ 16777216) (hll : l.length ≤ 16777216) (hr : rdOid out = some l) :
    Calls Try.prog 25 #[.slice a n c] w (OidPost w (l.map Int.ofNat) rest) := by
  obtain ⟨i0, hi0, hz0, hz1, hz2⟩ := info_parts int_info'
  have S := Lib.hid (str_any a n c xs w hn hb hl)
  have Hn := Lib.hid hn
  have Hl : Lim n := hl
  have Hf := Lib.hid hf
  have Hr := Lib.hid hr
  have hr : rest.length ≤ 4194304000 := by obtain ⟨b, k, _, _, _, _, h4, _⟩ := firstOf_inv hf; omega
  clear hn hb hl hf
  go_enter Try.func25, Try.ntmps25
  go_wp2_with fail
  refine S.out.mono ?_
  rintro e w1 ⟨a1, c1, rfl, p1, p2, p3, p4, p5, p6⟩
  go_wp2_with fail
  obtain ⟨w2, hw2⟩ : ∃ w2, w2 = (w1.alloc (.cells #[.slice a1 n c1] 79)).alloc (.cells #[.slice none 0 0] 78) := ⟨_, rfl⟩
  rw [← hw2]
  have q1 : Fr [] w1 w2 := by rw [hw2]; exact ((Fr.refl [] w1).alloc _).alloc _
  have q2 : SlB w2 w1.heap.size w1.heap.size 79 n xs := ⟨a1, c1, by rw [hw2]; exact (Blk.new _ _ _).alloc _, p1, p2, Hn.out, q1.bin p3 (by simp), hx⟩
  have q3 : Blk w2 (w1.heap.size + 1) 78 #[.slice none 0 0] := by rw [hw2]; exact Blk.new' (by simp) _ _
  clear hw2
  refine (readOID_yes w1.heap.size (w1.heap.size + 1) n xs out rest l w1.heap.size w2 q2 q3 (by omega) (Nat.le_refl _) (by omega) Hl Hf.out hol Hr.out).mono ?_
  rintro e w3 ⟨rfl, f, ⟨a3, c3, b1, b2, b3, b4, b5, b6⟩, r, c4, d1, d2, d3, d4⟩
  obtain ⟨A, hA⟩ : ∃ A, A = w1.heap.size := ⟨_, rfl⟩
  rw [← hA] at f b1 d1 ⊢
  have c0 := b1.one
  have c2 := d1.one
  have F13 : Fr [] w w3 := ((Fr.of_below p5 []).trans q1 (by simp)).trans f (by have := p5.size; simp; omega)
  have ltA := b1.lt
  have ltB := d1.lt
  have HF13 := Lib.hid F13
  have HB5 := Lib.hid b5.lt
  have HD4 := Lib.hid d4
  clear b4 b5 d4 hA F13
  obtain ⟨k, hk⟩ : ∃ k, k = l.length := ⟨_, rfl⟩
  have Hk := Lib.hid hk
  have Hk2 := Lib.hid (show (l.map Int.ofNat).length = k by rw [List.length_map, hk])
  obtain ⟨k2, hk2⟩ : ∃ k2, k2 = rest.length := ⟨_, rfl⟩
  have HR := Lib.hid hk2.symm
  rw [← hk] at c2
  rw [← hk2] at c0 hr
  clear hk hk2 d1 b1
  go_wp2_with fail
  -- the two ways through the last region
  have H63 := Lib.hid (show ([] : List Int).length + (l.map Int.ofNat).length ≤ 17592186044416 by rw [List.length_nil, List.length_map]; omega)
  have copy1 := Lib.hid (fun (W : World) (hf : Fr [] w3 W) => copied_any a3 k2 c3 rest W HR.out (hf.bin HB5.out (by simp)).lt hr)
  have ints1 := Lib.hid (fun (W : World) (hf : Fr [] w3 W) => hf.iin HD4.out (by simp))
  go_region_law ((first
    | (refine step_append_ints_x _ rfl (.const (.slice none 0 0)) (.tmp 11) _ _ rfl w3.heap.size 3 i0 _ Try.underlying37 Try.underlying78 hi0 hz0 hz1 hz2 rfl (.slice none 0 0) [] rfl (OwnI.nil _ _ _) w3.heap.size _ k c4 (l.map Int.ofNat) Hk2.out rfl (ints1.out _ (by first | exact (Fr.refl [] w3).drew | exact FC.out)) H63.out (by first | exact Nat.le_refl _ | exact FC.out.size) ?_; intro A' c' w5 hown hgr; have FD := Lib.hid (Fr.grown (S := []) (by first | exact (Fr.refl [] w3).drew | exact FC.out) hgr (fun k hk => by cases hk)); have cA := (World.cell?_of_block (w := w3) (a := ⟨A, 0, none⟩) (FD.out.block A ltA (by simp))).trans c0; have FE := Lib.hid ((Fr.refl [] _).grown hgr (fun k hk => by cases hk)); have Hown := Lib.hid hown; clear hown hgr)
    | (refine step_go_call (f := 39) (args := #[.slice a3 k2 c3]) rfl (by simp [go_sem]) (copy1.out _ (by first | exact (Fr.refl [] w3).drew | exact FD.out)) ?_; rintro e w4 ⟨a5, c5, rfl, r1, r2, r3, r4, r5, r6⟩; refine ⟨_, rfl, ?_⟩; have FC := Lib.hid (Fr.trans (S := []) (by first | exact (Fr.refl [] w3).drew | exact FD.out) (Fr.of_below r5 []) (by simp)); have cB := (World.cell?_of_block (w := w3) (a := ⟨A + 1, 0, none⟩) (FC.out.block (A + 1) ltB (by simp))).trans c2; have R3 := Lib.hid r3; have R5 := Lib.hid r5; clear r3 r4 r5 r6)))
  all_goals (
    go_simp
    go_wp2
    go_ret3
    first
      | exact ⟨_, _, _, _, oid_ret Hk2.out HR.out, (Hown.out.iin (by simpa using Hk2.out)).lt, (FE.out.bin R3.out (by simp)).lt, ((HF13.out.trans FD.out (by simp))).below (by simp) (Nat.le_refl _)⟩
      | exact ⟨_, _, _, _, oid_ret Hk2.out HR.out, ((Fr.of_below R5.out []).iin (Hown.out.iin (by simpa using Hk2.out)) (by simp)).lt, R3.out, ((HF13.out.trans FC.out (by simp))).below (by simp) (Nat.le_refl _)⟩)
end Go.Proofs.Ytnknidehcihcnaa
