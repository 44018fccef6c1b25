/- A Builder in memory, fixed or not: the contracts of (*Builder).add, Bytes, and of the thin package's bytesOf (builders that have no error and no child). -/
import Derived.Test.YtdnepnnkpaoaaaaSpec0
import Derived.Test.YtdnepnnkpaoaaaaBig
import Derived.Outline
import Derived.Deep.DeepMust
import Derived.BigQuiet
import Derived.Deep.QuietTactic
import Derived.IntWalk
namespace Go.Proofs.Ytdnepnnkpaoaaaa
open Go.RowKit
set_option linter.unusedVariables false

/-- What kind of builder: fixed (the block of its row, which never turns) or not; how many bytes it may come to hold. -/
structure Kd where
  fix : Option Nat
  lim : Nat
  ok : lim ≤ 4194303000
/-- The cells of a builder that has no error and no child. -/
abbrev bCs (fx : Bool) (v : Value) (off pl : Int) (pa : Bool) (ic : Value) : Array Value := #[.nilIface, v, .bool fx, .pointer none, .int .i64 off, .int .i64 pl, .bool pa, ic]

/-- A builder that has no error and no child: its bytes, which lie in a row of their own (blocks from base on); a fixed one has room for lim bytes. -/
def Bld (K : Kd) (w : World) (base g : Nat) (xs : List Int) (off pl : Int) (pa : Bool) (ic : Value) (rb : Option Nat) : Prop :=
  ∃ v, Blk w g 65 (bCs K.fix.isSome v off pl pa ic) ∧ OwnB w base 5 v xs ∧ v.ownBlock = rb ∧ ∀ r, K.fix = some r → ∃ c, v = .slice (some ⟨r, 0, none⟩) xs.length c ∧ c = K.lim

/-- A row's block is none of another type's. -/
theorem OwnB.ne_blk {w : World} {base e g : Nat} {v : Value} {xs : List Int} {t : TypeId} {cs : Array Value} (h : OwnB w base e v xs) (hg : Blk w g t cs) (hne : e ≠ t) : v.ownBlock ≠ some g := by
  rcases h.2 with ⟨rfl, _⟩ | ⟨g', cap, cur, rfl, _, hh, _⟩
  · simp [Value.ownBlock]
  · intro he
    have : g' = g := by simpa [Value.ownBlock] using he
    subst this
    unfold Blk at hg
    rw [hh] at hg
    injection hg with hg
    injection hg with _ ht
    exact hne ht
theorem OwnB.lt {w : World} {base e : Nat} {v : Value} {xs : List Int} (h : OwnB w base e v xs) : ∀ k, v.ownBlock = some k → base ≤ k ∧ k < w.heap.size := World.ownsRow.lt h

/-- What 'add' leaves. -/
def AddPost (K : Kd) (base g : Nat) (xs : List Int) (off pl : Int) (pa : Bool) (ic : Value) (rb : Option Nat) (w : World) (e : Ending) (w' : World) : Prop :=
  e = .returned (.tuple #[]) ∧ ∃ rb', Bld K w' base g xs off pl pa ic rb' ∧ Fr (g :: rb.toList) w w' ∧ (rb' = rb ∨ ∃ k, rb' = some k ∧ w.heap.size ≤ k)

section
variable {P : Program} (w : World)
/-- append of bytes; where there is room, the row stays. -/
theorem run_append_bytes_k (base : Nat) (t ty e : TypeId) (i : TypeInfo) (z : Value) (ht : P.underlying t = some (.slice e)) (hi : P.info? e = some i) (hz : i.zero = some z)
    (hsize : i.size = 1) (hby : i.bytes = 1) (hzs : z.cells.size = 1)
    (v : Value) (xs : List Int) (hown : OwnB w base e v xs)
    (B : Nat) (A : Option Addr) (m c : Nat) (ys : List Int) (hm : ys.length = m) (hr : BIn w B A ys)
    (h63 : xs.length + ys.length ≤ 70368744177664) (hbase : base ≤ w.heap.size) :
    ∃ v' w', (Builtin.append_ #[t, t] ty #[v, .slice A m c]).run P w = .ok v' w' ∧ OwnB w' base e v' (xs ++ ys) ∧ w.grownBy w' v.ownBlock ∧
      (v'.ownBlock = v.ownBlock ∨ v'.ownBlock = some w.heap.size) ∧ ∀ r cap, v = .slice (some ⟨r, 0, none⟩) xs.length cap → xs.length + m ≤ cap → v' = .slice (some ⟨r, 0, none⟩) (xs.length + m) cap := by
  obtain ⟨v', w', hrun, h2, h3, h4⟩ := run_append_bytes (P := P) w base t ty e i z ht hi hz hsize hby hzs v xs hown B A m c ys hm hr h63 hbase
  refine ⟨v', w', hrun, h2, h3, h4, ?_⟩
  rintro r cap rfl hroom
  by_cases h0 : m = 0
  · subst h0
    have hn : ys = [] := List.eq_nil_of_length_eq_zero hm
    subst hn
    have hrun2 : (Builtin.append_ #[t, t] ty #[.slice (some ⟨r, 0, none⟩) xs.length cap, .slice A 0 c]).run P w = .ok (.slice (some ⟨r, 0, none⟩) (xs.length + 0) cap) w := by
      cases A <;> simp [Builtin.append_, run_underlying ht, sizeOf, typeInfo, hi, Builtin.lenOf, Builtin.firstCells, show xs.length ≤ cap by omega, storeCells, loadCells] <;> rfl
    rw [hrun] at hrun2
    injection hrun2
  · obtain ⟨b, o, rfl, _, hc⟩ := hr (by omega)
    have hcells : ∀ j u, (ys.map (Value.int .u8))[j]? = some u → w.cell? ((⟨b, o, none⟩ : Addr).add j) = some u := by
      intro j u hu
      have hj : j < ys.length := by
        rcases Nat.lt_or_ge j ys.length with hlt | hge
        · exact hlt
        · simp [List.getElem?_eq_none hge] at hu
      rw [add_plain', hc j hj]
      simp [List.getElem?_eq_getElem hj] at hu
      subst hu
      simp [List.getElem?_eq_getElem hj]
    obtain ⟨w2, hrun2, _, _⟩ := run_append_fits (P := P) w base t ty e i 1 ht hi hsize r xs.length cap (xs.map (Value.int .u8)) hown ⟨b, o, none⟩ m c (ys.map (Value.int .u8)) (by simpa using hm) hcells
      (fun u hu => by simp at hu; obtain ⟨x, _, rfl⟩ := hu; rfl) hroom
    rw [hrun] at hrun2
    injection hrun2

theorem wpList_append_bytes_k {ops : Array Oper} {rest : List Oper} {o : Oper} {a : Act} {Q : Exit → Act → World → Prop} (hgd : o.guard = none) (s x : Operand) (t : TypeId)
    (ho : o.op = .call { callee := .builtin .append, args := #[s, x], argTypes := #[t, t] })
    (base : Nat) (e : TypeId) (i : TypeInfo) (z : Value) (ht : P.underlying t = some (.slice e)) (hi : P.info? e = some i) (hz : i.zero = some z)
    (hsize : i.size = 1) (hby : i.bytes = 1) (hzs : z.cells.size = 1)
    (v : Value) (xs : List Int) (hs : a.eval s = v) (hown : OwnB w base e v xs)
    (B : Nat) (A : Option Addr) (m c : Nat) (ys : List Int) (hm : ys.length = m) (hx : a.eval x = .slice A m c) (hr : BIn w B A ys)
    (h63 : xs.length + ys.length ≤ 70368744177664) (hbase : base ≤ w.heap.size)
    (h : ∀ A' c' w', OwnB w' base e (.slice A' (xs.length + m) c') (xs ++ ys) → w.grownBy w' v.ownBlock → ((Value.slice A' (xs.length + m) c').ownBlock = v.ownBlock ∨ (Value.slice A' (xs.length + m) c').ownBlock = some w.heap.size) →
      (∀ r cap, v = .slice (some ⟨r, 0, none⟩) xs.length cap → xs.length + m ≤ cap → A' = some ⟨r, 0, none⟩ ∧ c' = cap) → wpList P ops Q rest (a.put o.dst (.slice A' (xs.length + m) c')) w') : wpList P ops Q (o :: rest) a w := by
  refine wpList_plain hgd fun K hK => ?_
  obtain ⟨v', w', hrun, h2, h3, h4, h5⟩ := run_append_bytes_k (P := P) w base t o.type e i z ht hi hz hsize hby hzs v xs hown B A m c ys hm hr h63 hbase
  obtain ⟨A', c', rfl, _⟩ := h2.form
  unfold Oper.wp execOp
  simp only [ho, resolve, invoke, builtin, Sem.run_bind, Sem.run_pure, Result.andThen_ok, List.map_toArray, List.map_cons, List.map_nil, hs, hx, hrun]
  have hl : (xs ++ ys).length = xs.length + m := by rw [List.length_append, hm]
  rw [hl] at h2 h4 h5 ⊢
  exact hK _ _ (h A' c' w' h2 h3 h4 (fun r cap h6 h7 => by have := h5 r cap h6 h7; injection this with h8 h9 h10; exact ⟨h8, h10⟩))
end

set_option maxRecDepth 100000 in
set_option maxHeartbeats 800000 in
theorem add_any (K : Kd) (base g : Nat) (xs ys : List Int) (off pl : Int) (pa : Bool) (ic : Value) (rb : Option Nat) (a : Option Addr) (n c : Nat) (w : World)
    (hg : Bld K w base g xs off pl pa ic rb) (hn : ys.length = n) (hy : BIn w w.heap.size a ys) (hl : xs.length + n ≤ K.lim) (hb : base ≤ w.heap.size) :
    Calls Try.prog 60 #[.pointer (some ⟨g, 0, none⟩), .slice a n c] w (AddPost K base g (xs ++ ys) off pl pa ic rb w) := by
  obtain ⟨v, hg, hown, rfl, hfx⟩ := hg
  obtain ⟨i0, hi0, hz0, hz1, hz2⟩ := info_parts u8_info
  obtain ⟨av, cv, rfl, hlc, hcv, _, _⟩ := hown.form
  have hcap : K.fix.isSome = true → xs.length + n ≤ cv := by
    intro h
    obtain ⟨r, hr⟩ := Option.isSome_iff_exists.1 h
    obtain ⟨c', h1, h2⟩ := hfx r hr
    injection h1 with _ _ h3
    omega
  obtain ⟨fx, hfx'⟩ : ∃ fx, fx = K.fix.isSome := ⟨_, rfl⟩
  rw [← hfx'] at hg hcap
  have Hfx' := Lib.hid hfx'
  have Hfx := Lib.hid hfx
  have hK := K.ok
  have c0 : w.cell? ⟨g, 0, none⟩ = some .nilIface := hg.cell 0
  have c1 : w.cell? ⟨g, 1, none⟩ = some (.slice av xs.length cv) := hg.cell 1
  have c2 : w.cell? ⟨g, 2, none⟩ = some (.bool fx) := hg.cell 2
  have c3 : w.cell? ⟨g, 3, none⟩ = some (.pointer none) := hg.cell 3
  have hne := hown.ne_blk hg (by decide)
  have Hn := Lib.hid hn
  have Hg := Lib.hid hg
  have Ho := Lib.hid hown
  have Hne := Lib.hid hne
  have hgl := hg.lt
  obtain ⟨m, hm⟩ : ∃ m, m = xs.length := ⟨_, rfl⟩
  rw [← hm] at c1 hl hcap
  have Hm := Lib.hid hm
  have hx63 : (m : Int) + n ≤ 4194303000 := by omega
  clear hg hn hown hne hm hfx hfx' hlc hcv hK hl
  have hk := Lib.hid (fun (w1 w' : World) (h1 : w1.heap = w.heap) (hg1 : w1.grownBy w' (Value.slice av m cv).ownBlock) => (show Blk w' g 65 (bCs fx (.slice av m cv) off pl pa ic) from (hg1.block g (by rw [h1]; exact hgl) (fun e => by have := Hne.out; rw [← Hm.out] at this; exact this e.symm)).trans (by rw [h1, Hm.out]; exact Hg.out)))
  have C1 := Lib.hid (show xs.length + ys.length ≤ 70368744177664 by have := Hn.out; have := Hm.out; omega)
  have hgx : fx = false ∨ fx = true := by cases fx; exact .inl rfl; exact .inr rfl
  have Hcap := Lib.hid hcap
  clear hcap
  rcases hgx with rfl | rfl
  · skip
    go_enter Try.func60, Try.ntmps60
    go_wp2_with fail
    go_quiet (fail)
    go_wp2_with (at_builtin; go_must (refine wpList_append_bytes_k _ rfl (.tmp 58) (.tmp 59) _ rfl base 5 i0 _ Try.underlying22 hi0 hz0 hz1 hz2 rfl (.slice av m cv) xs rfl (show OwnB (w.drewN nq) base 5 (.slice av m cv) xs by rw [Hm.out]; exact Ho.out) w.heap.size a n c ys Hn.out rfl (show BIn (w.drewN nq) w.heap.size a ys from hy) C1.out (show base ≤ (w.drewN nq).heap.size from hb) ?_; intro A' c' w1 hown hg1 hat hroom; have B1 := Lib.hid (hk.out (w.drewN nq) _ rfl hg1); have b1 : w1.cell? ⟨g, 1, none⟩ = some (.slice av m cv) := B1.out.cell 1; have b2 := B1.out.frozen 1; have HR := Lib.hid hroom; clear hroom))
    go_end0
    have hb1 : Fr (g :: (Value.slice av m cv).ownBlock.toList) w w1 := ((Fr.refl _ w).drewN nq).grown hg1 (fun k hk => .inl (by simp [hk]))
    have hsz : w.heap.size ≤ w1.heap.size := hb1.size
    have hne' := hown.ne_blk B1.out (by decide)
    rw [Hm.out] at hat hb1
    refine ⟨rfl, _, ⟨.slice A' (xs.length + n) c', ?_, ?_, rfl, ?_⟩, hb1.set_ (.inl (by simp)) _, ?_⟩
    · rw [← Hfx'.out]; exact B1.out.set_ 1 _
    · refine hown.fr (S := [g]) ((Fr.refl [g] w1).set_ (.inl (by simp)) _) (fun k' hk' e => ?_)
      rw [List.mem_singleton] at e
      exact hne' (by rw [hk', e])
    · intro r hr
      obtain ⟨c9, h9, h10⟩ := Hfx.out r hr
      injection h9 with h11 h12 h13
      have := Hfx'.out; rw [hr] at this; cases this
    · rcases hat with h | h
      · exact .inl h
      · exact .inr ⟨_, h, Nat.le_refl _⟩
  · have h1 := Hcap.out rfl
    have hd : decide ((cv : Int) < (m : Int) + (n : Int)) = false := by rw [decide_eq_false_iff_not]; omega
    clear h1
    go_enter Try.func60, Try.ntmps60
    go_wp2_with fail
    go_quiet (fail)
    go_wp2_with (at_builtin; go_must (refine wpList_append_bytes_k _ rfl (.tmp 58) (.tmp 59) _ rfl base 5 i0 _ Try.underlying22 hi0 hz0 hz1 hz2 rfl (.slice av m cv) xs rfl (show OwnB (w.drewN nq) base 5 (.slice av m cv) xs by rw [Hm.out]; exact Ho.out) w.heap.size a n c ys Hn.out rfl (show BIn (w.drewN nq) w.heap.size a ys from hy) C1.out (show base ≤ (w.drewN nq).heap.size from hb) ?_; intro A' c' w1 hown hg1 hat hroom; have B1 := Lib.hid (hk.out (w.drewN nq) _ rfl hg1); have b1 : w1.cell? ⟨g, 1, none⟩ = some (.slice av m cv) := B1.out.cell 1; have b2 := B1.out.frozen 1; have HR := Lib.hid hroom; clear hroom))
    go_end0
    have hb1 : Fr (g :: (Value.slice av m cv).ownBlock.toList) w w1 := ((Fr.refl _ w).drewN nq).grown hg1 (fun k hk => .inl (by simp [hk]))
    have hsz : w.heap.size ≤ w1.heap.size := hb1.size
    have hne' := hown.ne_blk B1.out (by decide)
    rw [Hm.out] at hat hb1
    refine ⟨rfl, _, ⟨.slice A' (xs.length + n) c', ?_, ?_, rfl, ?_⟩, hb1.set_ (.inl (by simp)) _, ?_⟩
    · rw [← Hfx'.out]; exact B1.out.set_ 1 _
    · refine hown.fr (S := [g]) ((Fr.refl [g] w1).set_ (.inl (by simp)) _) (fun k' hk' e => ?_)
      rw [List.mem_singleton] at e
      exact hne' (by rw [hk', e])
    · intro r hr
      obtain ⟨c9, h9, h10⟩ := Hfx.out r hr
      injection h9 with h11 h12 h13
      obtain ⟨h14, h15⟩ := HR.out r cv (by rw [h11, Hm.out]) (by have := Hcap.out (by simp); have := Hm.out; omega)
      subst h14 h15 h13
      exact ⟨c', by rw [List.length_append, Hn.out], h10⟩
    · rcases hat with h | h
      · exact .inl h
      · exact .inr ⟨_, h, Nat.le_refl _⟩

/-- A slice of the call's own and 'true' are handed back. -/
def GotPost (w : World) (xs : List Int) (e : Ending) (w' : World) : Prop :=
  ∃ a c, e = .returned (.tuple #[.slice a xs.length c, .bool true]) ∧ xs.length ≤ c ∧ c ≤ maxLen ∧ BIn w' w'.heap.size a xs ∧ Below w.heap.size w w'

theorem bytes_ok (fx : Bool) (base g : Nat) (xs : List Int) (o : Nat) (pl : Int) (pa : Bool) (ic : Value) (w : World) (v : Value)
    (hg : Blk w g 65 (bCs fx v o pl pa ic)) (hown : OwnB w base 5 v xs) (ho : o ≤ xs.length) :
    Calls Try.prog 49 #[.pointer (some ⟨g, 0, none⟩)] w fun e w' => ∃ a c, e = .returned (.tuple #[.slice a (xs.length - o) c, .nilIface]) ∧ xs.length - o ≤ c ∧ c ≤ maxLen ∧ BIn w w.heap.size a (xs.drop o) ∧ ∃ k, w' = w.drewN k := by
  obtain ⟨av, cv, rfl, hc, hm, _, _⟩ := hown.form
  have c0 : w.cell? ⟨g, 0, none⟩ = some .nilIface := hg.cell 0
  have c1 : w.cell? ⟨g, 1, none⟩ = some (.slice av xs.length cv) := hg.cell 1
  have c4 : w.cell? ⟨g, 4, none⟩ = some (.int .i64 o) := hg.cell 4
  have B := Lib.hid ((hown.bin rfl).cut (c := cv) (k := o) (by omega))
  obtain ⟨m, hm'⟩ : ∃ m, m = xs.length := ⟨_, rfl⟩
  rw [← hm'] at c1 hc ho ⊢
  have sl := fun w => sl_from av m cv o o rfl ho w
  clear hg hown hm'
  go_enter Try.func49, Try.ntmps49
  go_wp2_with fail
  go_quiet (fail)
  go_wp2
  go_ret2
  exact ⟨_, _, rfl, by omega, by omega, B.out, nq, rfl⟩

set_option maxRecDepth 100000 in
set_option maxHeartbeats 800000 in
theorem bytesOf_ok (K : Kd) (base g : Nat) (xs : List Int) (pl : Int) (pa : Bool) (ic : Value) (rb : Option Nat) (w : World)
    (hg : Bld K w base g xs 0 pl pa ic rb) (hl : xs.length ≤ 4194304000) :
    Calls Try.prog 33 #[.pointer (some ⟨g, 0, none⟩)] w (GotPost w xs) := by
  obtain ⟨v, hg, hown, _, _⟩ := hg
  have H := Lib.hid (bytes_ok _ base g xs 0 pl pa ic w v hg hown (by omega))
  obtain ⟨n, hn⟩ : ∃ n, n = xs.length := ⟨_, rfl⟩
  have Hn := Lib.hid hn
  rw [← hn] at hl
  simp only [List.drop_zero, Nat.sub_zero, ← hn] at H
  clear hg hown hn
  go_enter Try.func33, Try.ntmps33
  go_wp2_with fail
  refine H.out.mono ?_
  rintro e w1 ⟨a1, c1, rfl, h1, h2, h3, k, hw1⟩
  have h3' : BIn w1 w1.heap.size a1 xs := by rw [hw1]; exact h3
  have F1 : Fr [] w w1 := by rw [hw1]; exact (Fr.refl [] w).drewN k
  clear hw1 h3
  go_wp2_with fail
  have C1 := Lib.hid (copied_any a1 n c1 xs w1.drew Hn.out.symm h3'.drew hl)
  go_region_held3 (fun w' => True) (exact trivial) (first | (go_at_call 39; (with_reducible refine C1.out.mono ?_); rintro e w4 ⟨a5, c5, rfl, r1, r2, r3, r4, r5, r6⟩))
  go_wp2
  go_ret2
  have hn := Hn.out
  subst hn
  exact ⟨a5, c5, rfl, r1, r2, r3, ((F1.drew).trans (Fr.of_below r5 []) (by simp)).below (by simp) (Nat.le_refl _)⟩
end Go.Proofs.Ytdnepnnkpaoaaaa
